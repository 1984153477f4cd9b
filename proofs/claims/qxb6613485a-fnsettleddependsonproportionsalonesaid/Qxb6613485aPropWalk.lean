/-
  THE WALK OF FnSettledDependsOnProportionsAlone.
-/
import Derived.Test.Qxb6613485aModel
import Derived.Test.Qxb6613485aCopy
import Derived.WalkLawsBesides
namespace Go.Proofs.Qxb6613485a.fnSettledDependsOnProportionsAlone
open Go.RowKit Go.Proofs.Qxb6613485a.Tally Go.Proofs.Qxb6613485a.Copy

set_option maxHeartbeats 400000 in
theorem walk_great (n : Int) (a : Option Addr) (len cap : Nat) (g t f : Int) (h : 65536 < len) (w : World) :
    Calls Try.prog 6 #[.int .i64 n, .slice a len cap, .int .i64 g, .int .i64 t, .int .i64 f] w fun e w' => e = .returned (.bool true) ∧ Below w.heap.size w w' := by
  by_cases h2 : 1048576 < len
  · go_enter Try.func6, Try.ntmps6
    go_wp2_with (go_at_call 13; refine (bytes13_great _ _ _ _ _ _ _ h2 _).mono ?_; rintro e w' ⟨rfl, rfl⟩)
    go_ret
    exact ⟨rfl, Below.refl _ _⟩
  · go_enter Try.func6, Try.ntmps6
    go_wp2_with (go_at_call 13; refine (bytes13_small _ _ _ _ _ _ _ (by omega) _).mono ?_; rintro e w' ⟨rfl, rfl⟩)
    go_ret
    exact ⟨rfl, Below.refl _ _⟩

set_option maxHeartbeats 400000 in
theorem walk_dom (n : Int) (a : Option Addr) (len cap : Nat) (g t f : Int) (h : len ≤ 65536) (f1 : f ≤ 9223372036854775807) (d : ¬ InDom n len g t f) (w : World) :
    Calls Try.prog 6 #[.int .i64 n, .slice a len cap, .int .i64 g, .int .i64 t, .int .i64 f] w fun e w' => e = .returned (.bool true) ∧ Below w.heap.size w w' := by
  go_enter Try.func6, Try.ntmps6
  go_wp2_with (first
    | (go_at_call 13; refine (bytes13_small _ _ _ _ _ _ _ (by omega) _).mono ?_; rintro e w' ⟨rfl, rfl⟩)
    | (go_at_call 10; refine (dom_no n len g t f (by omega) (by omega) f1 d _).mono ?_; rintro e w' ⟨rfl, rfl⟩))
  go_ret
  exact ⟨rfl, Below.refl _ _⟩

theorem twice (n : Int) (len : Nat) (g t f : Int) : setB (2 * n) ((2 * len : Nat) : Int) (2 * g) (2 * t) (2 * f) = setB n len g t f := by
  rw [show ((2 * len : Nat) : Int) = 2 * (len : Int) from by omega]
  exact setB_twice n len g t f

theorem below_two {w w3 w4 w5 : World} (hb : Below w.heap.size w w3) (hb4 : Below w3.heap.size w3 w4) (hb5 : Below w4.heap.size w4 w5) : Below w.heap.size w w5 := by
  have s3 := hb.size
  have s4 := hb4.size
  exact (hb.trans (hb4.mono s3)).trans (hb5.mono (by omega))

set_option maxHeartbeats 1000000 in
/-- A slice that holds something. -/
theorem own_pos (n : Int) (x : Addr) (len cap : Nat) (g t f : Int) (w : World) (h : len ≤ 65536) (hp : 0 < len) (hl : Src w (some x) len) (d : InDom n len g t f)
    (n0 : 0 ≤ n) (n1 : n ≤ 268435456) (g0 : 0 ≤ g) (g1 : g ≤ 268435456) (t0 : 0 ≤ t) (t1 : t ≤ 268435456) (f0 : 0 ≤ f) (f1 : f ≤ 268435456) :
    Calls Try.prog 6 #[.int .i64 n, .slice (some x) len cap, .int .i64 g, .int .i64 t, .int .i64 f] w fun e w' => e = .returned (.bool true) ∧ Below w.heap.size w w' := by
  have hmk := run_make_row' (P := Try.prog) 25 2 (.int .i64 0) 8 Try.underlying25 info2' rfl .i64 .i64 len (by omega) (by omega)
  have hmk2 := run_make_row' (P := Try.prog) 25 2 (.int .i64 0) 8 Try.underlying25 info2' rfl .i64 .i64 (2 * len) (by omega) (by omega)
  rw [show ((2 * len : Nat) : Int) = 2 * (len : Int) from by omega] at hmk2
  obtain ⟨w1, hcp1, hb1, hrow1, hsz1⟩ := made_copied w (some x) len cap len hl (Nat.le_refl _)
  obtain ⟨w2, hcp2, hb2, hrow2, hsz2⟩ := made_copied w1 (some ⟨w.heap.size, 0, none⟩) len len (2 * len) hrow1.src (by omega)
  obtain ⟨w3, hcp3, hb3, _, _⟩ := copy_src (o := len) (k := len) (c := len) (m := 2 * len - len) (cap := 2 * len - len) (hrow1.below hb2 (by omega)).src hrow2 (by omega) (by omega)
  have hbw : Below w.heap.size w w3 := (hb1.trans (hb2.mono hb1.size)).trans (hb3 _ hb1.size)
  have hne : ¬ 2 * len - len = 0 := by omega
  clear hrow1 hrow2 hsz2 hsz1 hb1 hb2 hb3
  go_enter Try.func6, Try.ntmps6
  go_wp2_with (first
    | (go_at_call 13; refine (bytes13_small _ _ _ _ _ _ _ (by omega) _).mono ?_; rintro e w' ⟨rfl, rfl⟩)
    | (go_at_call 10; refine (dom_yes n len g t f (by omega) (by omega) d _).mono ?_; rintro e w' ⟨rfl, rfl⟩))
  refine (zzsettled_any n g t f _ len len (by omega) n0 (by omega) g0 (by omega) t0 (by omega) f0 (by omega) _).mono ?_
  rintro e w4 ⟨rfl, hb4⟩
  go_wp2_with fail
  refine (zzsettled_any (2 * n) (2 * g) (2 * t) (2 * f) _ (2 * len) (2 * len) (by omega) (by omega) (by omega) (by omega) (by omega) (by omega) (by omega) (by omega) (by omega) _).mono ?_
  rintro e w5 ⟨rfl, hb5⟩
  rw [twice n len g t f]
  go_wp2_with fail
  refine (model_any n len g t f n0 (by omega) (by omega) (by omega) g0 (by omega) t0 (by omega) f0 (by omega) _).mono ?_
  rintro e w5' ⟨rfl, rfl⟩
  go_wp2_with fail
  go_ret
  exact ⟨rfl, below_two hbw hb4 hb5⟩

theorem twice0 (n g t f : Int) : setB (2 * n) ((0 : Nat) : Int) (2 * g) (2 * t) (2 * f) = setB n 0 g t f := twice n 0 g t f

theorem settled0 (n g t f : Int) (a : Option Addr) (cap : Nat) (h0 : 0 ≤ n) (h1 : n ≤ 536870912) (g0 : 0 ≤ g) (g1 : g ≤ 536870912) (t0 : 0 ≤ t) (t1 : t ≤ 536870912) (f0 : 0 ≤ f) (f1 : f ≤ 536870912) (w : World) :
    Calls Try.prog 11 #[.int .i64 n, .slice a 0 cap, .int .i64 g, .int .i64 t, .int .i64 f] w fun e w' => e = .returned (.bool (setB n 0 g t f)) ∧ Below w.heap.size w w' :=
  zzsettled_any n g t f a 0 cap (by omega) h0 h1 g0 g1 t0 t1 f0 f1 w

theorem settled0' (n g t f : Int) (a : Option Addr) (cap : Nat) (h0 : 0 ≤ n) (h1 : n ≤ 268435456) (g0 : 0 ≤ g) (g1 : g ≤ 268435456) (t0 : 0 ≤ t) (t1 : t ≤ 268435456) (f0 : 0 ≤ f) (f1 : f ≤ 268435456) (w : World) :
    Calls Try.prog 11 #[.int .i64 (2 * n), .slice a 0 cap, .int .i64 (2 * g), .int .i64 (2 * t), .int .i64 (2 * f)] w fun e w' => e = .returned (.bool (setB n 0 g t f)) ∧ Below w.heap.size w w' := by
  have h := zzsettled_any (2 * n) (2 * g) (2 * t) (2 * f) a 0 cap (by omega) (by omega) (by omega) (by omega) (by omega) (by omega) (by omega) (by omega) (by omega) w
  rwa [twice0] at h

/-- Nothing goes over out of a slice of no elements. -/
theorem copy_zero (w : World) (d a : Option Addr) (m cap c : Nat) (ty : TypeId) : (Builtin.copy_ #[25, 25] ty #[.slice d m cap, .slice a 0 c]).run Try.prog w = .ok (goInt 0) w :=
  run_copy_none (P := Try.prog) w 25 25 ty 2 d a m cap 0 c Try.underlying25 info2 (Nat.zero_min m)

theorem make_zero (w : World) : (Instr.makeSlice 25 (.int .i64 0) (.int .i64 0)).run Try.prog w = .ok (.slice (some ⟨w.heap.size, 0, none⟩) 0 0) (w.alloc (.cells (madeCells #[.int .i64 0] 0) 2)) :=
  run_make_row' (P := Try.prog) 25 2 (.int .i64 0) 8 Try.underlying25 info2' rfl .i64 .i64 0 (by omega) (by omega) w

set_option maxHeartbeats 1000000 in
/-- A slice of no elements that is not nil. -/
theorem own_zero (n : Int) (x : Addr) (cap : Nat) (g t f : Int) (w : World) (d : InDom n ((0 : Nat) : Int) g t f)
    (n0 : 0 ≤ n) (n1 : n ≤ 268435456) (g0 : 0 ≤ g) (g1 : g ≤ 268435456) (t0 : 0 ≤ t) (t1 : t ≤ 268435456) (f0 : 0 ≤ f) (f1 : f ≤ 268435456) :
    Calls Try.prog 6 #[.int .i64 n, .slice (some x) 0 cap, .int .i64 g, .int .i64 t, .int .i64 f] w fun e w' => e = .returned (.bool true) ∧ Below w.heap.size w w' := by
  have hmk := make_zero
  have hcp := copy_zero
  go_enter Try.func6, Try.ntmps6
  go_wp2_with (first
    | (go_at_call 13; refine (bytes13_small _ _ _ _ _ _ _ (by omega) _).mono ?_; rintro e w' ⟨rfl, rfl⟩)
    | (go_at_call 10; refine (dom_yes n ((0 : Nat) : Int) g t f (by omega) (by omega) d _).mono ?_; rintro e w' ⟨rfl, rfl⟩))
  refine (settled0 n g t f _ _ n0 (by omega) g0 (by omega) t0 (by omega) f0 (by omega) _).mono ?_
  rintro e w4 ⟨rfl, hb4⟩
  go_wp2_with fail
  refine (settled0' n g t f _ _ n0 n1 g0 g1 t0 t1 f0 f1 _).mono ?_
  rintro e w5 ⟨rfl, hb5⟩
  go_wp2_with fail
  refine (model_any n 0 g t f n0 (by omega) (by omega) (by omega) g0 (by omega) t0 (by omega) f0 (by omega) _).mono ?_
  rintro e w5' ⟨rfl, rfl⟩
  go_wp2_with fail
  go_ret
  exact ⟨rfl, below_two (((Below.refl _ _).alloc (Nat.le_refl _) _).alloc (by simp) _) hb4 hb5⟩

set_option maxHeartbeats 1000000 in
/-- The nil slice. -/
theorem nil_zero (n : Int) (cap : Nat) (g t f : Int) (w : World) (d : InDom n ((0 : Nat) : Int) g t f)
    (n0 : 0 ≤ n) (n1 : n ≤ 268435456) (g0 : 0 ≤ g) (g1 : g ≤ 268435456) (t0 : 0 ≤ t) (t1 : t ≤ 268435456) (f0 : 0 ≤ f) (f1 : f ≤ 268435456) :
    Calls Try.prog 6 #[.int .i64 n, .slice none 0 cap, .int .i64 g, .int .i64 t, .int .i64 f] w fun e w' => e = .returned (.bool true) ∧ Below w.heap.size w w' := by
  have hmk := make_zero
  have hcp := copy_zero
  go_enter Try.func6, Try.ntmps6
  go_wp2_with (first
    | (go_at_call 13; refine (bytes13_small _ _ _ _ _ _ _ (by omega) _).mono ?_; rintro e w' ⟨rfl, rfl⟩)
    | (go_at_call 10; refine (dom_yes n ((0 : Nat) : Int) g t f (by omega) (by omega) d _).mono ?_; rintro e w' ⟨rfl, rfl⟩))
  refine (settled0 n g t f _ _ n0 (by omega) g0 (by omega) t0 (by omega) f0 (by omega) _).mono ?_
  rintro e w4 ⟨rfl, hb4⟩
  go_wp2_with fail
  refine (settled0' n g t f _ _ n0 n1 g0 g1 t0 t1 f0 f1 _).mono ?_
  rintro e w5 ⟨rfl, hb5⟩
  go_wp2_with fail
  refine (model_any n 0 g t f n0 (by omega) (by omega) (by omega) g0 (by omega) t0 (by omega) f0 (by omega) _).mono ?_
  rintro e w5' ⟨rfl, rfl⟩
  go_wp2_with fail
  go_ret
  exact ⟨rfl, below_two ((Below.refl _ _).alloc (Nat.le_refl _) _) hb4 hb5⟩

end Go.Proofs.Qxb6613485a.fnSettledDependsOnProportionsAlone
