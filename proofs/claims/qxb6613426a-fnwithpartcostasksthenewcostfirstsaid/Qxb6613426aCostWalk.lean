/-
  THE WALK OF FnWithPartCostAsksTheNewCostFirst.
-/
import Derived.Test.Qxb6613426aStack
namespace Go.Proofs.Qxb6613426a.fnWithPartCostAsksTheNewCostFirst
open Go.RowKit Go.Proofs.Qxb6613426a.Cost

set_option maxHeartbeats 400000 in
theorem bytes_small (a : Int) (okA : Bool) (b : Int) (okB : Bool) (s t : ByteArray) (h : s.size + t.size ≤ 1048576) (w : World) :
    Calls Try.prog 13 #[.int .i64 a, .bool okA, .int .i64 b, .bool okB, .string s, .string t] w fun e w' => e = .returned (.bool true) ∧ w = w' := by
  have h1 : ¬ 1048576 < (s.size : Int) := by omega
  have h2 : ¬ 1048576 < (t.size : Int) := by omega
  have h3 : ¬ 1048576 < (s.size : Int) + (t.size : Int) := by omega
  go_enter Try.func13, Try.ntmps13
  go_wp2
  go_ret
  exact ⟨rfl, rfl⟩

set_option maxHeartbeats 400000 in
theorem bytes_great (a : Int) (okA : Bool) (b : Int) (okB : Bool) (s t : ByteArray) (h : 1048576 < s.size + t.size) (w : World) :
    Calls Try.prog 13 #[.int .i64 a, .bool okA, .int .i64 b, .bool okB, .string s, .string t] w fun e w' => e = .returned (.bool false) ∧ w = w' := by
  by_cases h1 : 1048576 < (s.size : Int)
  · go_enter Try.func13, Try.ntmps13
    go_wp2
    go_ret
    exact ⟨rfl, rfl⟩
  by_cases h2 : 1048576 < (t.size : Int)
  · go_enter Try.func13, Try.ntmps13
    go_wp2
    go_ret
    exact ⟨rfl, rfl⟩
  have h3 : 1048576 < (s.size : Int) + (t.size : Int) := by omega
  go_enter Try.func13, Try.ntmps13
  go_wp2
  go_ret
  exact ⟨rfl, rfl⟩

set_option maxHeartbeats 400000 in
theorem walk_great (a : Int) (okA : Bool) (b : Int) (okB : Bool) (s t : ByteArray) (h : 1048576 < s.size + t.size) (w : World) :
    Calls Try.prog 6 #[.int .i64 a, .bool okA, .int .i64 b, .bool okB, .string s, .string t] w fun e w' => e = .returned (.bool true) ∧ Below w.heap.size w w' := by
  go_enter Try.func6, Try.ntmps6
  go_wp2_with (go_at_call 13; refine (bytes_great _ _ _ _ _ _ h _).mono ?_; rintro e w' ⟨rfl, rfl⟩)
  go_ret
  exact ⟨rfl, Below.refl _ _⟩

theorem below_three {w w1 w2 w3 : World} (h1 : Below w.heap.size w w1) (h2 : Below w1.heap.size w1 w2) (h3 : Below w2.heap.size w2 w3) : Below w.heap.size w w3 := by
  have s1 := h1.size
  have s2 := h2.size
  exact (h1.trans (h2.mono s1)).trans (h3.mono (by omega))

set_option maxHeartbeats 400000 in
theorem walk_ff (a : Int) (b : Int) (s t : ByteArray) (h : s.size + t.size ≤ 1048576)  (w : World) :
    Calls Try.prog 6 #[.int .i64 a, .bool false, .int .i64 b, .bool false, .string s, .string t] w fun e w' => e = .returned (.bool true) ∧ Below w.heap.size w w' := by
  have h1 : ¬ 1048576 < (s.size : Int) := by omega
  have h2 : ¬ 1048576 - (s.size : Int) < (t.size : Int) := by omega
  have ga : gives a false = false := rfl
  have gb : gives b false = false := rfl
  have tk : Cost.tok a b false = a := by unfold Cost.tok; rw [gb]; rfl
  go_enter Try.func6, Try.ntmps6
  go_wp2_with (go_at_call 13; refine (bytes_small _ _ _ _ _ _ h _).mono ?_; rintro e w' ⟨rfl, rfl⟩)
  refine (once_any a false s t _).mono ?_
  rintro e w1 ⟨rfl, hb1⟩
  go_wp2_with fail
  refine (once_any b false s t _).mono ?_
  rintro e w2 ⟨rfl, hb2⟩
  go_wp2_with fail
  refine (stacked_any a false b false s t _).mono ?_
  rintro e w3 ⟨rfl, hb3⟩
  go_wp2
  go_ret
  exact ⟨rfl, below_three hb1 hb2 hb3⟩

set_option maxHeartbeats 400000 in
theorem walk_fp (a : Int) (b : Int) (s t : ByteArray) (h : s.size + t.size ≤ 1048576) (pb : 0 ≤ b) (w : World) :
    Calls Try.prog 6 #[.int .i64 a, .bool false, .int .i64 b, .bool true, .string s, .string t] w fun e w' => e = .returned (.bool true) ∧ Below w.heap.size w w' := by
  have h1 : ¬ 1048576 < (s.size : Int) := by omega
  have h2 : ¬ 1048576 - (s.size : Int) < (t.size : Int) := by omega
  have ga : gives a false = false := rfl
  have gb : gives b true = true := by simp [gives, pb]
  have tk : Cost.tok a b true = b := by unfold Cost.tok; rw [gb]; rfl
  go_enter Try.func6, Try.ntmps6
  go_wp2_with (go_at_call 13; refine (bytes_small _ _ _ _ _ _ h _).mono ?_; rintro e w' ⟨rfl, rfl⟩)
  refine (once_any a false s t _).mono ?_
  rintro e w1 ⟨rfl, hb1⟩
  go_wp2_with fail
  refine (once_any b true s t _).mono ?_
  rintro e w2 ⟨rfl, hb2⟩
  go_wp2_with fail
  refine (stacked_any a false b true s t _).mono ?_
  rintro e w3 ⟨rfl, hb3⟩
  go_wp2
  go_ret
  exact ⟨rfl, below_three hb1 hb2 hb3⟩

set_option maxHeartbeats 400000 in
theorem walk_fn (a : Int) (b : Int) (s t : ByteArray) (h : s.size + t.size ≤ 1048576) (pb : ¬ 0 ≤ b) (w : World) :
    Calls Try.prog 6 #[.int .i64 a, .bool false, .int .i64 b, .bool true, .string s, .string t] w fun e w' => e = .returned (.bool true) ∧ Below w.heap.size w w' := by
  have h1 : ¬ 1048576 < (s.size : Int) := by omega
  have h2 : ¬ 1048576 - (s.size : Int) < (t.size : Int) := by omega
  have ga : gives a false = false := rfl
  have gb : gives b true = false := by simp [gives, pb]
  have tk : Cost.tok a b true = a := by unfold Cost.tok; rw [gb]; rfl
  go_enter Try.func6, Try.ntmps6
  go_wp2_with (go_at_call 13; refine (bytes_small _ _ _ _ _ _ h _).mono ?_; rintro e w' ⟨rfl, rfl⟩)
  refine (once_any a false s t _).mono ?_
  rintro e w1 ⟨rfl, hb1⟩
  go_wp2_with fail
  refine (once_any b true s t _).mono ?_
  rintro e w2 ⟨rfl, hb2⟩
  go_wp2_with fail
  refine (stacked_any a false b true s t _).mono ?_
  rintro e w3 ⟨rfl, hb3⟩
  go_wp2
  go_ret
  exact ⟨rfl, below_three hb1 hb2 hb3⟩

set_option maxHeartbeats 400000 in
theorem walk_pf (a : Int) (b : Int) (s t : ByteArray) (h : s.size + t.size ≤ 1048576) (pa : 0 ≤ a) (w : World) :
    Calls Try.prog 6 #[.int .i64 a, .bool true, .int .i64 b, .bool false, .string s, .string t] w fun e w' => e = .returned (.bool true) ∧ Below w.heap.size w w' := by
  have h1 : ¬ 1048576 < (s.size : Int) := by omega
  have h2 : ¬ 1048576 - (s.size : Int) < (t.size : Int) := by omega
  have ga : gives a true = true := by simp [gives, pa]
  have gb : gives b false = false := rfl
  have tk : Cost.tok a b false = a := by unfold Cost.tok; rw [gb]; rfl
  go_enter Try.func6, Try.ntmps6
  go_wp2_with (go_at_call 13; refine (bytes_small _ _ _ _ _ _ h _).mono ?_; rintro e w' ⟨rfl, rfl⟩)
  refine (once_any a true s t _).mono ?_
  rintro e w1 ⟨rfl, hb1⟩
  go_wp2_with fail
  refine (once_any b false s t _).mono ?_
  rintro e w2 ⟨rfl, hb2⟩
  go_wp2_with fail
  refine (stacked_any a true b false s t _).mono ?_
  rintro e w3 ⟨rfl, hb3⟩
  go_wp2
  go_ret
  exact ⟨rfl, below_three hb1 hb2 hb3⟩

set_option maxHeartbeats 400000 in
theorem walk_pp (a : Int) (b : Int) (s t : ByteArray) (h : s.size + t.size ≤ 1048576) (pa : 0 ≤ a) (pb : 0 ≤ b) (w : World) :
    Calls Try.prog 6 #[.int .i64 a, .bool true, .int .i64 b, .bool true, .string s, .string t] w fun e w' => e = .returned (.bool true) ∧ Below w.heap.size w w' := by
  have h1 : ¬ 1048576 < (s.size : Int) := by omega
  have h2 : ¬ 1048576 - (s.size : Int) < (t.size : Int) := by omega
  have ga : gives a true = true := by simp [gives, pa]
  have gb : gives b true = true := by simp [gives, pb]
  have tk : Cost.tok a b true = b := by unfold Cost.tok; rw [gb]; rfl
  go_enter Try.func6, Try.ntmps6
  go_wp2_with (go_at_call 13; refine (bytes_small _ _ _ _ _ _ h _).mono ?_; rintro e w' ⟨rfl, rfl⟩)
  refine (once_any a true s t _).mono ?_
  rintro e w1 ⟨rfl, hb1⟩
  go_wp2_with fail
  refine (once_any b true s t _).mono ?_
  rintro e w2 ⟨rfl, hb2⟩
  go_wp2_with fail
  refine (stacked_any a true b true s t _).mono ?_
  rintro e w3 ⟨rfl, hb3⟩
  go_wp2
  go_ret
  exact ⟨rfl, below_three hb1 hb2 hb3⟩

set_option maxHeartbeats 400000 in
theorem walk_pn (a : Int) (b : Int) (s t : ByteArray) (h : s.size + t.size ≤ 1048576) (pa : 0 ≤ a) (pb : ¬ 0 ≤ b) (w : World) :
    Calls Try.prog 6 #[.int .i64 a, .bool true, .int .i64 b, .bool true, .string s, .string t] w fun e w' => e = .returned (.bool true) ∧ Below w.heap.size w w' := by
  have h1 : ¬ 1048576 < (s.size : Int) := by omega
  have h2 : ¬ 1048576 - (s.size : Int) < (t.size : Int) := by omega
  have ga : gives a true = true := by simp [gives, pa]
  have gb : gives b true = false := by simp [gives, pb]
  have tk : Cost.tok a b true = a := by unfold Cost.tok; rw [gb]; rfl
  go_enter Try.func6, Try.ntmps6
  go_wp2_with (go_at_call 13; refine (bytes_small _ _ _ _ _ _ h _).mono ?_; rintro e w' ⟨rfl, rfl⟩)
  refine (once_any a true s t _).mono ?_
  rintro e w1 ⟨rfl, hb1⟩
  go_wp2_with fail
  refine (once_any b true s t _).mono ?_
  rintro e w2 ⟨rfl, hb2⟩
  go_wp2_with fail
  refine (stacked_any a true b true s t _).mono ?_
  rintro e w3 ⟨rfl, hb3⟩
  go_wp2
  go_ret
  exact ⟨rfl, below_three hb1 hb2 hb3⟩

set_option maxHeartbeats 400000 in
theorem walk_nf (a : Int) (b : Int) (s t : ByteArray) (h : s.size + t.size ≤ 1048576) (pa : ¬ 0 ≤ a) (w : World) :
    Calls Try.prog 6 #[.int .i64 a, .bool true, .int .i64 b, .bool false, .string s, .string t] w fun e w' => e = .returned (.bool true) ∧ Below w.heap.size w w' := by
  have h1 : ¬ 1048576 < (s.size : Int) := by omega
  have h2 : ¬ 1048576 - (s.size : Int) < (t.size : Int) := by omega
  have ga : gives a true = false := by simp [gives, pa]
  have gb : gives b false = false := rfl
  have tk : Cost.tok a b false = a := by unfold Cost.tok; rw [gb]; rfl
  go_enter Try.func6, Try.ntmps6
  go_wp2_with (go_at_call 13; refine (bytes_small _ _ _ _ _ _ h _).mono ?_; rintro e w' ⟨rfl, rfl⟩)
  refine (once_any a true s t _).mono ?_
  rintro e w1 ⟨rfl, hb1⟩
  go_wp2_with fail
  refine (once_any b false s t _).mono ?_
  rintro e w2 ⟨rfl, hb2⟩
  go_wp2_with fail
  refine (stacked_any a true b false s t _).mono ?_
  rintro e w3 ⟨rfl, hb3⟩
  go_wp2
  go_ret
  exact ⟨rfl, below_three hb1 hb2 hb3⟩

set_option maxHeartbeats 400000 in
theorem walk_np (a : Int) (b : Int) (s t : ByteArray) (h : s.size + t.size ≤ 1048576) (pa : ¬ 0 ≤ a) (pb : 0 ≤ b) (w : World) :
    Calls Try.prog 6 #[.int .i64 a, .bool true, .int .i64 b, .bool true, .string s, .string t] w fun e w' => e = .returned (.bool true) ∧ Below w.heap.size w w' := by
  have h1 : ¬ 1048576 < (s.size : Int) := by omega
  have h2 : ¬ 1048576 - (s.size : Int) < (t.size : Int) := by omega
  have ga : gives a true = false := by simp [gives, pa]
  have gb : gives b true = true := by simp [gives, pb]
  have tk : Cost.tok a b true = b := by unfold Cost.tok; rw [gb]; rfl
  go_enter Try.func6, Try.ntmps6
  go_wp2_with (go_at_call 13; refine (bytes_small _ _ _ _ _ _ h _).mono ?_; rintro e w' ⟨rfl, rfl⟩)
  refine (once_any a true s t _).mono ?_
  rintro e w1 ⟨rfl, hb1⟩
  go_wp2_with fail
  refine (once_any b true s t _).mono ?_
  rintro e w2 ⟨rfl, hb2⟩
  go_wp2_with fail
  refine (stacked_any a true b true s t _).mono ?_
  rintro e w3 ⟨rfl, hb3⟩
  go_wp2
  go_ret
  exact ⟨rfl, below_three hb1 hb2 hb3⟩

set_option maxHeartbeats 400000 in
theorem walk_nn (a : Int) (b : Int) (s t : ByteArray) (h : s.size + t.size ≤ 1048576) (pa : ¬ 0 ≤ a) (pb : ¬ 0 ≤ b) (w : World) :
    Calls Try.prog 6 #[.int .i64 a, .bool true, .int .i64 b, .bool true, .string s, .string t] w fun e w' => e = .returned (.bool true) ∧ Below w.heap.size w w' := by
  have h1 : ¬ 1048576 < (s.size : Int) := by omega
  have h2 : ¬ 1048576 - (s.size : Int) < (t.size : Int) := by omega
  have ga : gives a true = false := by simp [gives, pa]
  have gb : gives b true = false := by simp [gives, pb]
  have tk : Cost.tok a b true = a := by unfold Cost.tok; rw [gb]; rfl
  go_enter Try.func6, Try.ntmps6
  go_wp2_with (go_at_call 13; refine (bytes_small _ _ _ _ _ _ h _).mono ?_; rintro e w' ⟨rfl, rfl⟩)
  refine (once_any a true s t _).mono ?_
  rintro e w1 ⟨rfl, hb1⟩
  go_wp2_with fail
  refine (once_any b true s t _).mono ?_
  rintro e w2 ⟨rfl, hb2⟩
  go_wp2_with fail
  refine (stacked_any a true b true s t _).mono ?_
  rintro e w3 ⟨rfl, hb3⟩
  go_wp2
  go_ret
  exact ⟨rfl, below_three hb1 hb2 hb3⟩

theorem walk (a0 : Int) (a1 : Bool) (a2 : Int) (a3 : Bool) (a4 : ByteArray) (a5 : ByteArray) (w : World) :
    Calls Try.prog 6 #[.int .i64 a0, .bool a1, .int .i64 a2, .bool a3, .string a4, .string a5] w fun e w' => e = .returned (.bool true) ∧ Below w.heap.size w w' := by
  by_cases h : a4.size + a5.size ≤ 1048576
  · cases a1
    · cases a3
      · exact walk_ff a0 a2 a4 a5 h w
      · by_cases hb : 0 ≤ a2
        · exact walk_fp a0 a2 a4 a5 h hb w
        · exact walk_fn a0 a2 a4 a5 h hb w
    · by_cases ha : 0 ≤ a0
      · cases a3
        · exact walk_pf a0 a2 a4 a5 h ha w
        · by_cases hb : 0 ≤ a2
          · exact walk_pp a0 a2 a4 a5 h ha hb w
          · exact walk_pn a0 a2 a4 a5 h ha hb w
      · cases a3
        · exact walk_nf a0 a2 a4 a5 h ha w
        · by_cases hb : 0 ≤ a2
          · exact walk_np a0 a2 a4 a5 h ha hb w
          · exact walk_nn a0 a2 a4 a5 h ha hb w
  · exact walk_great a0 a1 a2 a3 a4 a5 (by omega) w

end Go.Proofs.Qxb6613426a.fnWithPartCostAsksTheNewCostFirst
