/-
  THE WALK OF FnSettledStaysSettledAsOutcomesCome: a nil slice came in.
-/
import Derived.Test.Qxb6613485aStays0
namespace Go.Proofs.Qxb6613485a.fnSettledStaysSettledAsOutcomesCome
open Go.RowKit Go.Proofs.Qxb6613485a.Tally Go.Proofs.Qxb6613485a.Copy

set_option maxHeartbeats 1000000 in
theorem nil_all (n : Int) (len cap : Nat) (g t f r : Int) (k : Int) (k0 : ¬ k < 0) (k1 : ¬ 3 < k) (w : World) (h : len ≤ 65536) (d : InDom n len g t f)
    (n0 : 0 ≤ n) (n1 : n ≤ 268435456) (g0 : 0 ≤ g) (g1 : g ≤ 268435456) (t0 : 0 ≤ t) (t1 : t ≤ 268435456) (f0 : 0 ≤ f) (f1 : f ≤ 268435456)
    (z : ((len : Int) + g + t + f == n) = true) :
    Calls Try.prog 5 #[.int .i64 n, .slice none len cap, .int .i64 g, .int .i64 t, .int .i64 f, .int .i64 k, .int .i64 r] w fun e w' => e = .returned (.bool true) ∧ Below w.heap.size w w' := by
  go_enter Try.func5, Try.ntmps5
  go_wp2_with (first
    | (go_at_call 9; refine (bytes9_small _ _ _ _ _ _ _ _ _ (by omega) _).mono ?_; rintro e w' ⟨rfl, rfl⟩)
    | (go_at_call 10; refine (dom_yes n len g t f (by omega) (by omega) d _).mono ?_; rintro e w' ⟨rfl, rfl⟩))
  refine (zzsettled_any n g t f none len cap (by omega) n0 (by omega) g0 (by omega) t0 (by omega) f0 (by omega) _).mono ?_
  rintro e w2 ⟨rfl, hb2⟩
  have hbw : Below w.heap.size w w2 := hb2
  go_wp2_with fail
  refine (model_any n len g t f n0 (by omega) (by omega) (by omega) g0 (by omega) t0 (by omega) f0 (by omega) _).mono ?_
  rintro e w2' ⟨rfl, rfl⟩
  go_wp2_with fail
  go_ret
  exact ⟨rfl, hbw⟩

set_option maxHeartbeats 1000000 in
theorem nil_0 (n : Int) (len cap : Nat) (g t f r : Int) (w : World) (h : len ≤ 65536) (hl : Src w none len) (d : InDom n len g t f)
    (n0 : 0 ≤ n) (n1 : n ≤ 268435456) (g0 : 0 ≤ g) (g1 : g ≤ 268435456) (t0 : 0 ≤ t) (t1 : t ≤ 268435456) (f0 : 0 ≤ f) (f1 : f ≤ 268435456)
    (z : ((len : Int) + g + t + f == n) = false) (hs : setB n len g t f = true → setB n ((len : Int) + 1) g t f = true) :
    Calls Try.prog 5 #[.int .i64 n, .slice none len cap, .int .i64 g, .int .i64 t, .int .i64 f, .int .i64 0, .int .i64 r] w fun e w' => e = .returned (.bool true) ∧ Below w.heap.size w w' := by
  have hmk := run_make_row' (P := Try.prog) 25 2 (.int .i64 0) 8 Try.underlying25 info2' rfl .i64 .i64 len (by omega) (by omega)
  have hmk1 := run_make_row' (P := Try.prog) 25 2 (.int .i64 0) 8 Try.underlying25 info2' rfl .i64 .i64 (len + 1) (by omega) (by omega)
  rw [show ((len + 1 : Nat) : Int) = (len : Int) + 1 from by omega] at hmk1
  go_enter Try.func5, Try.ntmps5
  go_wp2_with (first
    | (go_at_call 9; refine (bytes9_small _ _ _ _ _ _ _ _ _ (by omega) _).mono ?_; rintro e w' ⟨rfl, rfl⟩)
    | (go_at_call 10; refine (dom_yes n len g t f (by omega) (by omega) d _).mono ?_; rintro e w' ⟨rfl, rfl⟩))
  refine (zzsettled_any n g t f none len cap (by omega) n0 (by omega) g0 (by omega) t0 (by omega) f0 (by omega) _).mono ?_
  rintro e w2 ⟨rfl, hb2⟩
  have hl2 : Src w2 none len := by
    rcases hl with h | ⟨_, h, _⟩
    · exact .inl h
    · cases h
  obtain ⟨w3, hcp2, hb3, hrow3, _⟩ := made_copied w2 none len cap (len + 1) hl2 (by omega)
  clear hl2
  have hbw : Below w.heap.size w w2 := hb2
  obtain ⟨fr, hfr⟩ := hrow3
  have hcl := (hfr len (by omega)).1
  have hfz := (hfr len (by omega)).2
  clear hfr
  go_wp2_with fail
  refine (model_any n len g t f n0 (by omega) (by omega) (by omega) g0 (by omega) t0 (by omega) f0 (by omega) _).mono ?_
  rintro e w2' ⟨rfl, rfl⟩
  go_wp2_with fail
  refine (zzsettled_any n g t f _ (len + 1) (len + 1) (by omega) n0 (by omega) (by omega) (by omega) (by omega) (by omega) (by omega) (by omega) _).mono ?_
  rintro e w4 ⟨rfl, hb4⟩
  go_wp2_with fail
  refine (model_any n ((len : Int) + 1) g t f n0 (by omega) (by omega) (by omega) (by omega) (by omega) (by omega) (by omega) (by omega) (by omega) _).mono ?_
  rintro e w4' ⟨rfl, rfl⟩
  cases hc : setB n len g t f
  · go_wp2_with fail
    go_ret
    exact ⟨rfl, below_set hbw hb3 hb4⟩
  · have hd := hs hc
    go_wp2_with fail
    go_ret
    exact ⟨rfl, below_set hbw hb3 hb4⟩

set_option maxHeartbeats 1000000 in
theorem nil_1 (n : Int) (len cap : Nat) (g t f r : Int) (w : World) (h : len ≤ 65536) (hl : Src w none len) (d : InDom n len g t f)
    (n0 : 0 ≤ n) (n1 : n ≤ 268435456) (g0 : 0 ≤ g) (g1 : g ≤ 268435456) (t0 : 0 ≤ t) (t1 : t ≤ 268435456) (f0 : 0 ≤ f) (f1 : f ≤ 268435456)
    (z : ((len : Int) + g + t + f == n) = false) (hs : setB n len g t f = true → setB n (len : Int) (g + 1) t f = true) :
    Calls Try.prog 5 #[.int .i64 n, .slice none len cap, .int .i64 g, .int .i64 t, .int .i64 f, .int .i64 1, .int .i64 r] w fun e w' => e = .returned (.bool true) ∧ Below w.heap.size w w' := by
  have hmk := run_make_row' (P := Try.prog) 25 2 (.int .i64 0) 8 Try.underlying25 info2' rfl .i64 .i64 len (by omega) (by omega)
  go_enter Try.func5, Try.ntmps5
  go_wp2_with (first
    | (go_at_call 9; refine (bytes9_small _ _ _ _ _ _ _ _ _ (by omega) _).mono ?_; rintro e w' ⟨rfl, rfl⟩)
    | (go_at_call 10; refine (dom_yes n len g t f (by omega) (by omega) d _).mono ?_; rintro e w' ⟨rfl, rfl⟩))
  refine (zzsettled_any n g t f none len cap (by omega) n0 (by omega) g0 (by omega) t0 (by omega) f0 (by omega) _).mono ?_
  rintro e w2 ⟨rfl, hb2⟩
  have hl2 : Src w2 none len := by
    rcases hl with h | ⟨_, h, _⟩
    · exact .inl h
    · cases h
  obtain ⟨w3, hcp2, hb3, hrow3, _⟩ := made_copied w2 none len cap len hl2 (by omega)
  clear hl2
  have hbw : Below w.heap.size w w2 := hb2
  clear hrow3
  go_wp2_with fail
  refine (model_any n len g t f n0 (by omega) (by omega) (by omega) g0 (by omega) t0 (by omega) f0 (by omega) _).mono ?_
  rintro e w2' ⟨rfl, rfl⟩
  go_wp2_with fail
  refine (zzsettled_any n (g + 1) t f _ len len (by omega) n0 (by omega) (by omega) (by omega) (by omega) (by omega) (by omega) (by omega) _).mono ?_
  rintro e w4 ⟨rfl, hb4⟩
  go_wp2_with fail
  refine (model_any n (len : Int) (g + 1) t f n0 (by omega) (by omega) (by omega) (by omega) (by omega) (by omega) (by omega) (by omega) (by omega) _).mono ?_
  rintro e w4' ⟨rfl, rfl⟩
  cases hc : setB n len g t f
  · go_wp2_with fail
    go_ret
    exact ⟨rfl, below_last hbw hb3 hb4⟩
  · have hd := hs hc
    go_wp2_with fail
    go_ret
    exact ⟨rfl, below_last hbw hb3 hb4⟩

set_option maxHeartbeats 1000000 in
theorem nil_2 (n : Int) (len cap : Nat) (g t f r : Int) (w : World) (h : len ≤ 65536) (hl : Src w none len) (d : InDom n len g t f)
    (n0 : 0 ≤ n) (n1 : n ≤ 268435456) (g0 : 0 ≤ g) (g1 : g ≤ 268435456) (t0 : 0 ≤ t) (t1 : t ≤ 268435456) (f0 : 0 ≤ f) (f1 : f ≤ 268435456)
    (z : ((len : Int) + g + t + f == n) = false) (hs : setB n len g t f = true → setB n (len : Int) g (t + 1) f = true) :
    Calls Try.prog 5 #[.int .i64 n, .slice none len cap, .int .i64 g, .int .i64 t, .int .i64 f, .int .i64 2, .int .i64 r] w fun e w' => e = .returned (.bool true) ∧ Below w.heap.size w w' := by
  have hmk := run_make_row' (P := Try.prog) 25 2 (.int .i64 0) 8 Try.underlying25 info2' rfl .i64 .i64 len (by omega) (by omega)
  go_enter Try.func5, Try.ntmps5
  go_wp2_with (first
    | (go_at_call 9; refine (bytes9_small _ _ _ _ _ _ _ _ _ (by omega) _).mono ?_; rintro e w' ⟨rfl, rfl⟩)
    | (go_at_call 10; refine (dom_yes n len g t f (by omega) (by omega) d _).mono ?_; rintro e w' ⟨rfl, rfl⟩))
  refine (zzsettled_any n g t f none len cap (by omega) n0 (by omega) g0 (by omega) t0 (by omega) f0 (by omega) _).mono ?_
  rintro e w2 ⟨rfl, hb2⟩
  have hl2 : Src w2 none len := by
    rcases hl with h | ⟨_, h, _⟩
    · exact .inl h
    · cases h
  obtain ⟨w3, hcp2, hb3, hrow3, _⟩ := made_copied w2 none len cap len hl2 (by omega)
  clear hl2
  have hbw : Below w.heap.size w w2 := hb2
  clear hrow3
  go_wp2_with fail
  refine (model_any n len g t f n0 (by omega) (by omega) (by omega) g0 (by omega) t0 (by omega) f0 (by omega) _).mono ?_
  rintro e w2' ⟨rfl, rfl⟩
  go_wp2_with fail
  refine (zzsettled_any n g (t + 1) f _ len len (by omega) n0 (by omega) (by omega) (by omega) (by omega) (by omega) (by omega) (by omega) _).mono ?_
  rintro e w4 ⟨rfl, hb4⟩
  go_wp2_with fail
  refine (model_any n (len : Int) g (t + 1) f n0 (by omega) (by omega) (by omega) (by omega) (by omega) (by omega) (by omega) (by omega) (by omega) _).mono ?_
  rintro e w4' ⟨rfl, rfl⟩
  cases hc : setB n len g t f
  · go_wp2_with fail
    go_ret
    exact ⟨rfl, below_last hbw hb3 hb4⟩
  · have hd := hs hc
    go_wp2_with fail
    go_ret
    exact ⟨rfl, below_last hbw hb3 hb4⟩

set_option maxHeartbeats 1000000 in
theorem nil_3 (n : Int) (len cap : Nat) (g t f r : Int) (w : World) (h : len ≤ 65536) (hl : Src w none len) (d : InDom n len g t f)
    (n0 : 0 ≤ n) (n1 : n ≤ 268435456) (g0 : 0 ≤ g) (g1 : g ≤ 268435456) (t0 : 0 ≤ t) (t1 : t ≤ 268435456) (f0 : 0 ≤ f) (f1 : f ≤ 268435456)
    (z : ((len : Int) + g + t + f == n) = false) (hs : setB n len g t f = true → setB n (len : Int) g t (f + 1) = true) :
    Calls Try.prog 5 #[.int .i64 n, .slice none len cap, .int .i64 g, .int .i64 t, .int .i64 f, .int .i64 3, .int .i64 r] w fun e w' => e = .returned (.bool true) ∧ Below w.heap.size w w' := by
  have hmk := run_make_row' (P := Try.prog) 25 2 (.int .i64 0) 8 Try.underlying25 info2' rfl .i64 .i64 len (by omega) (by omega)
  go_enter Try.func5, Try.ntmps5
  go_wp2_with (first
    | (go_at_call 9; refine (bytes9_small _ _ _ _ _ _ _ _ _ (by omega) _).mono ?_; rintro e w' ⟨rfl, rfl⟩)
    | (go_at_call 10; refine (dom_yes n len g t f (by omega) (by omega) d _).mono ?_; rintro e w' ⟨rfl, rfl⟩))
  refine (zzsettled_any n g t f none len cap (by omega) n0 (by omega) g0 (by omega) t0 (by omega) f0 (by omega) _).mono ?_
  rintro e w2 ⟨rfl, hb2⟩
  have hl2 : Src w2 none len := by
    rcases hl with h | ⟨_, h, _⟩
    · exact .inl h
    · cases h
  obtain ⟨w3, hcp2, hb3, hrow3, _⟩ := made_copied w2 none len cap len hl2 (by omega)
  clear hl2
  have hbw : Below w.heap.size w w2 := hb2
  clear hrow3
  go_wp2_with fail
  refine (model_any n len g t f n0 (by omega) (by omega) (by omega) g0 (by omega) t0 (by omega) f0 (by omega) _).mono ?_
  rintro e w2' ⟨rfl, rfl⟩
  go_wp2_with fail
  refine (zzsettled_any n g t (f + 1) _ len len (by omega) n0 (by omega) (by omega) (by omega) (by omega) (by omega) (by omega) (by omega) _).mono ?_
  rintro e w4 ⟨rfl, hb4⟩
  go_wp2_with fail
  refine (model_any n (len : Int) g t (f + 1) n0 (by omega) (by omega) (by omega) (by omega) (by omega) (by omega) (by omega) (by omega) (by omega) _).mono ?_
  rintro e w4' ⟨rfl, rfl⟩
  cases hc : setB n len g t f
  · go_wp2_with fail
    go_ret
    exact ⟨rfl, below_last hbw hb3 hb4⟩
  · have hd := hs hc
    go_wp2_with fail
    go_ret
    exact ⟨rfl, below_last hbw hb3 hb4⟩

end Go.Proofs.Qxb6613485a.fnSettledStaysSettledAsOutcomesCome
