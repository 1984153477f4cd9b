/-
  THE WALK OF FnChars4FourPlainCharactersCountOne.
-/
import Derived.Test.Qxb6613426aRows
import Derived.WalkKit
import Derived.ProofKit
import Derived.WalkSpells
import Derived.WalkLawsBesides
import Derived.Below
import Derived.Test.Qxb6613426aPlain
import Derived.Test.Qxb6613426aCount
import Derived.Test.Qxb6613426aRun
namespace Go.Proofs.Qxb6613426a.fnChars4FourPlainCharactersCountOne
open Go.RowKit

/-! ### the plain facts -/
theorem fours_alone (k : Nat) : Count.quarter (Run.letters (4 * k)) = k := by
  unfold Count.quarter
  rw [Plain.runes_letters _ (Run.letters_ascii _), Run.letters_size]
  omega

theorem fours_behind (s : ByteArray) (k : Nat) : Count.quarter (s ++ Run.letters (4 * k)) = Count.quarter s + k := by
  unfold Count.quarter
  rw [Plain.runes_behind s _ (Run.letters_ascii _) (Plain.runes_letters _ (Run.letters_ascii _)), Run.letters_size]
  omega

theorem fours_ahead (s : ByteArray) (k : Nat) : Count.quarter (Run.letters (4 * k) ++ s) = Count.quarter s + k := by
  unfold Count.quarter
  rw [Plain.runes_ahead s _ (Run.letters_ascii _), Run.letters_size]
  omega

theorem quarter_le (s : ByteArray) : Count.quarter s ≤ s.size := by
  have := Lib.runeCount_le s
  unfold Count.quarter
  omega

theorem run_four (k : Nat) (hk : k ≤ 65536) (w : World) :
    Calls Try.prog 10 #[.int .i64 (4 * (k : Int))] w fun e w' => e = .returned (.string (Run.letters (4 * k))) ∧ Below w.heap.size w w' := by
  have h := Run.run_any (4 * k) (by omega) w
  rwa [show ((4 * k : Nat) : Int) = 4 * (k : Int) from by omega] at h

set_option maxHeartbeats 400000 in
theorem bytes_small (s : ByteArray) (i : Int) (h : s.size ≤ 1048576) (w : World) :
    Calls Try.prog 9 #[.string s, .int .i64 i] w fun e w' => e = .returned (.bool true) ∧ w = w' := by
  go_enter Try.func9, Try.ntmps9
  go_wp2
  go_ret
  exact ⟨rfl, rfl⟩

set_option maxHeartbeats 400000 in
theorem walk_great (s : ByteArray) (k : Int) (h : 1048576 < s.size) (w : World) :
    Calls Try.prog 4 #[.string s, .int .i64 k] w fun e w' => e = .returned (.bool true) ∧ Below w.heap.size w w' := by
  go_enter Try.func4, Try.ntmps4
  go_wp2
  go_ret
  exact ⟨rfl, Below.refl _ _⟩

set_option maxHeartbeats 400000 in
theorem walk_out (s : ByteArray) (k : Int) (h : s.size ≤ 1048576) (hk : k < 0 ∨ 65536 < k) (w : World) :
    Calls Try.prog 4 #[.string s, .int .i64 k] w fun e w' => e = .returned (.bool true) ∧ Below w.heap.size w w' := by
  rcases hk with hk | hk
  · go_enter Try.func4, Try.ntmps4
    go_wp2_with (go_at_call 9; refine (bytes_small _ _ h _).mono ?_; rintro e w' ⟨rfl, rfl⟩)
    go_ret
    exact ⟨rfl, Below.refl _ _⟩
  · have h0 : ¬ k < 0 := by omega
    go_enter Try.func4, Try.ntmps4
    go_wp2_with (go_at_call 9; refine (bytes_small _ _ h _).mono ?_; rintro e w' ⟨rfl, rfl⟩)
    go_ret
    exact ⟨rfl, Below.refl _ _⟩

set_option maxHeartbeats 400000 in
theorem walk_wide (s : ByteArray) (k : Nat) (h : s.size ≤ 1048576) (hk : k ≤ 65536) (hw : 1048576 - 4 * (k : Int) < (s.size : Int)) (w : World) :
    Calls Try.prog 4 #[.string s, .int .i64 k] w fun e w' => e = .returned (.bool true) ∧ Below w.heap.size w w' := by
  have h0 : ¬ (k : Int) < 0 := by omega
  have h1 : ¬ 65536 < (k : Int) := by omega
  go_enter Try.func4, Try.ntmps4
  go_wp2_with (go_at_call 9; refine (bytes_small _ _ h _).mono ?_; rintro e w' ⟨rfl, rfl⟩)
  go_ret
  exact ⟨rfl, Below.refl _ _⟩

theorem below_chain {w w0 w1 w2 w3 w4 : World} {o : Obj} (hb0 : Below w.heap.size w w0) (hb1 : Below (w0.alloc o).heap.size (w0.alloc o) w1) (hb2 : Below w1.heap.size w1 w2) (hb3 : Below w2.heap.size w2 w3) (hb4 : Below w3.heap.size w3 w4) :
    Below w.heap.size w w4 := by
  have s0 := hb0.size
  have s1 := hb1.size
  have s2 := hb2.size
  have s3 := hb3.size
  have sa : w0.heap.size ≤ (w0.alloc o).heap.size := by simp
  exact ((((hb0.alloc s0 o).trans (hb1.mono (by omega))).trans (hb2.mono (by omega))).trans (hb3.mono (by omega))).trans (hb4.mono (by omega))

set_option maxHeartbeats 1000000 in
theorem walk_in (s : ByteArray) (k : Nat) (h : s.size ≤ 1048576) (hk : k ≤ 65536) (hw : ¬ 1048576 - 4 * (k : Int) < (s.size : Int)) (w : World) :
    Calls Try.prog 4 #[.string s, .int .i64 k] w fun e w' => e = .returned (.bool true) ∧ Below w.heap.size w w' := by
  have h0 : ¬ (k : Int) < 0 := by omega
  have h1 : ¬ 65536 < (k : Int) := by omega
  have q0 : Count.quarter s ≤ 1048576 := Nat.le_trans (quarter_le s) h
  have e1 : ((Count.quarter (Run.letters (4 * k)) : Int) == (k : Int)) = true := by rw [fours_alone]; simp
  have e2 : ((Count.quarter (s ++ Run.letters (4 * k)) : Int) == (Count.quarter s : Int) + (k : Int)) = true := by rw [fours_behind]; simp
  have e3 : ((Count.quarter (Run.letters (4 * k) ++ s) : Int) == (Count.quarter s : Int) + (k : Int)) = true := by rw [fours_ahead]; simp
  have z0 : s.size ≤ 1099511627776 := by omega
  have z1 : (Run.letters (4 * k)).size ≤ 1099511627776 := by rw [Run.letters_size]; omega
  have z2 : (s ++ Run.letters (4 * k)).size ≤ 1099511627776 := by rw [Plain.append_size, Run.letters_size]; omega
  have z3 : (Run.letters (4 * k) ++ s).size ≤ 1099511627776 := by rw [Plain.append_size, Run.letters_size]; omega
  go_enter Try.func4, Try.ntmps4
  go_wp2_with (first
    | (go_at_call 9; refine (bytes_small _ _ h _).mono ?_; rintro e w' ⟨rfl, rfl⟩)
    | (go_at_call 10; refine (run_four _ hk _).mono ?_; rintro e w0 ⟨rfl, hb0⟩))
  refine (Count.text_any s _ z0).mono ?_
  rintro e w1 ⟨rfl, hb1⟩
  go_wp2_with fail
  refine (Count.text_any (Run.letters (4 * k)) _ z1).mono ?_
  rintro e w2 ⟨rfl, hb2⟩
  go_wp2_with fail
  refine (Count.text_any (s ++ Run.letters (4 * k)) _ z2).mono ?_
  rintro e w3 ⟨rfl, hb3⟩
  go_wp2_with fail
  refine (Count.text_any (Run.letters (4 * k) ++ s) _ z3).mono ?_
  rintro e w4 ⟨rfl, hb4⟩
  go_wp2_with fail
  go_ret
  exact ⟨rfl, below_chain hb0 hb1 hb2 hb3 hb4⟩

theorem walk (a0 : ByteArray) (a1 : Int) (w : World) :
    Calls Try.prog 4 #[.string a0, .int .i64 a1] w fun e w' => e = .returned (.bool true) ∧ Below w.heap.size w w' := by
  by_cases h : a0.size ≤ 1048576
  · by_cases hk : 0 ≤ a1 ∧ a1 ≤ 65536
    · obtain ⟨h0, h1⟩ := hk
      obtain ⟨k, rfl⟩ := Int.eq_ofNat_of_zero_le h0
      by_cases hw : 1048576 - 4 * (k : Int) < (a0.size : Int)
      · exact walk_wide a0 k h (by omega) hw w
      · exact walk_in a0 k h (by omega) hw w
    · exact walk_out a0 a1 h (by omega) w
  · exact walk_great a0 a1 (by omega) w

end Go.Proofs.Qxb6613426a.fnChars4FourPlainCharactersCountOne
