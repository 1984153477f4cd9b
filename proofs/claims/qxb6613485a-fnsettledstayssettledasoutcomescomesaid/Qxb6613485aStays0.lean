/-
  THE WALK OF FnSettledStaysSettledAsOutcomesCome: the ways that end early.
-/
import Derived.Test.Qxb6613485aModel
import Derived.Test.Qxb6613485aCopy
import Derived.WalkLawsBesides
namespace Go.Proofs.Qxb6613485a.fnSettledStaysSettledAsOutcomesCome
open Go.RowKit Go.Proofs.Qxb6613485a.Tally Go.Proofs.Qxb6613485a.Copy

theorem below_last {w w2 w3 w4 : World} (hbw : Below w.heap.size w w2) (hb3 : Below w2.heap.size w2 w3) (hb4 : Below w3.heap.size w3 w4) : Below w.heap.size w w4 := by
  have s2 := hbw.size
  have s3 := hb3.size
  exact (hbw.trans (hb3.mono s2)).trans (hb4.mono (by omega))

theorem below_set {w w2 w3 w4 : World} {j : Nat} {v : Value} (hbw : Below w.heap.size w w2) (hb3 : Below w2.heap.size w2 w3) (hb4 : Below (w3.setCell ⟨w2.heap.size, j, none⟩ v).heap.size (w3.setCell ⟨w2.heap.size, j, none⟩ v) w4) : Below w.heap.size w w4 := by
  have s2 := hbw.size
  have s3 := hb3.size
  have hz : (w3.setCell ⟨w2.heap.size, j, none⟩ v).heap.size = w3.heap.size := by simp [World.setCell]
  exact ((hbw.trans (hb3.mono s2)).setCell (p := ⟨w2.heap.size, j, none⟩) s2 v).trans (hb4.mono (by omega))

set_option maxHeartbeats 400000 in
theorem walk_great (n : Int) (a : Option Addr) (len cap : Nat) (g t f k r : Int) (h : 65536 < len) (w : World) :
    Calls Try.prog 5 #[.int .i64 n, .slice a len cap, .int .i64 g, .int .i64 t, .int .i64 f, .int .i64 k, .int .i64 r] w fun e w' => e = .returned (.bool true) ∧ Below w.heap.size w w' := by
  by_cases h2 : 1048576 < len
  · go_enter Try.func5, Try.ntmps5
    go_wp2_with (go_at_call 9; refine (bytes9_great _ _ _ _ _ _ _ _ _ h2 _).mono ?_; rintro e w' ⟨rfl, rfl⟩)
    go_ret
    exact ⟨rfl, Below.refl _ _⟩
  · go_enter Try.func5, Try.ntmps5
    go_wp2_with (go_at_call 9; refine (bytes9_small _ _ _ _ _ _ _ _ _ (by omega) _).mono ?_; rintro e w' ⟨rfl, rfl⟩)
    go_ret
    exact ⟨rfl, Below.refl _ _⟩

set_option maxHeartbeats 400000 in
theorem walk_dom (n : Int) (a : Option Addr) (len cap : Nat) (g t f k r : Int) (h : len ≤ 65536) (f1 : f ≤ 9223372036854775807) (d : ¬ InDom n len g t f) (w : World) :
    Calls Try.prog 5 #[.int .i64 n, .slice a len cap, .int .i64 g, .int .i64 t, .int .i64 f, .int .i64 k, .int .i64 r] w fun e w' => e = .returned (.bool true) ∧ Below w.heap.size w w' := by
  go_enter Try.func5, Try.ntmps5
  go_wp2_with (first
    | (go_at_call 9; refine (bytes9_small _ _ _ _ _ _ _ _ _ (by omega) _).mono ?_; rintro e w' ⟨rfl, rfl⟩)
    | (go_at_call 10; refine (dom_no n len g t f (by omega) (by omega) f1 d _).mono ?_; rintro e w' ⟨rfl, rfl⟩))
  go_ret
  exact ⟨rfl, Below.refl _ _⟩

set_option maxHeartbeats 400000 in
theorem walk_kind (n : Int) (a : Option Addr) (len cap : Nat) (g t f k r : Int) (h : len ≤ 65536) (d : InDom n len g t f) (hk : k < 0 ∨ 3 < k) (w : World) :
    Calls Try.prog 5 #[.int .i64 n, .slice a len cap, .int .i64 g, .int .i64 t, .int .i64 f, .int .i64 k, .int .i64 r] w fun e w' => e = .returned (.bool true) ∧ Below w.heap.size w w' := by
  rcases hk with hk | hk
  · go_enter Try.func5, Try.ntmps5
    go_wp2_with (first
      | (go_at_call 9; refine (bytes9_small _ _ _ _ _ _ _ _ _ (by omega) _).mono ?_; rintro e w' ⟨rfl, rfl⟩)
      | (go_at_call 10; refine (dom_yes n len g t f (by omega) (by omega) d _).mono ?_; rintro e w' ⟨rfl, rfl⟩))
    go_ret
    exact ⟨rfl, Below.refl _ _⟩
  · have hk0 : ¬ k < 0 := by omega
    go_enter Try.func5, Try.ntmps5
    go_wp2_with (first
      | (go_at_call 9; refine (bytes9_small _ _ _ _ _ _ _ _ _ (by omega) _).mono ?_; rintro e w' ⟨rfl, rfl⟩)
      | (go_at_call 10; refine (dom_yes n len g t f (by omega) (by omega) d _).mono ?_; rintro e w' ⟨rfl, rfl⟩))
    go_ret
    exact ⟨rfl, Below.refl _ _⟩

end Go.Proofs.Qxb6613485a.fnSettledStaysSettledAsOutcomesCome
