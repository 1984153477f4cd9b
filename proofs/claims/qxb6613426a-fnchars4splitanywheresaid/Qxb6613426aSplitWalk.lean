/-
  THE WALK OF FnChars4SplitAnywhere.
-/
import Derived.Test.Qxb6613426aRows
import Derived.WalkKit
import Derived.ProofKit
import Derived.WalkSpells
import Derived.WalkLawsBesides
import Derived.Deep.RegionWith
import Derived.Below
import Derived.Test.Qxb6613426aPlain
import Derived.Test.Qxb6613426aCount
namespace Go.Proofs.Qxb6613426a.fnChars4SplitAnywhere
open Go.RowKit

set_option maxHeartbeats 400000 in
theorem bytes_small (s : ByteArray) (i : Int) (h : s.size ≤ 1048576) (w : World) :
    Calls Try.prog 12 #[.string s, .int .i64 i] w fun e w' => e = .returned (.bool true) ∧ w' = w := by
  go_enter Try.func12, Try.ntmps12
  go_wp2
  go_ret
  exact ⟨rfl, rfl⟩

set_option maxHeartbeats 400000 in
theorem walk_great (s : ByteArray) (i : Int) (h : 1048576 < s.size) (w : World) :
    Calls Try.prog 5 #[.string s, .int .i64 i] w fun e w' => e = .returned (.bool true) ∧ Below w.heap.size w w' := by
  go_enter Try.func5, Try.ntmps5
  go_wp2
  go_ret
  exact ⟨rfl, Below.refl _ _⟩

set_option maxHeartbeats 400000 in
theorem walk_out (s : ByteArray) (i : Int) (h : s.size ≤ 1048576) (hi : i < 0 ∨ (s.size : Int) < i) (w : World) :
    Calls Try.prog 5 #[.string s, .int .i64 i] w fun e w' => e = .returned (.bool true) ∧ Below w.heap.size w w' := by
  rcases hi with hi | hi
  · go_enter Try.func5, Try.ntmps5
    go_wp2_with (go_at_call 12; refine (bytes_small _ _ h _).mono ?_; rintro e w' ⟨rfl, rfl⟩)
    go_ret
    exact ⟨rfl, Below.refl _ _⟩
  · have h0 : ¬ i < 0 := by omega
    go_enter Try.func5, Try.ntmps5
    go_wp2_with (go_at_call 12; refine (bytes_small _ _ h _).mono ?_; rintro e w' ⟨rfl, rfl⟩)
    go_ret
    exact ⟨rfl, Below.refl _ _⟩

theorem quarter_le (s : ByteArray) : Count.quarter s ≤ s.size := by
  have := Lib.runeCount_le s
  unfold Count.quarter
  omega

theorem tail_small (s : ByteArray) (i n : Nat) (h : s.size ≤ n) : (s.extract i s.size).size ≤ n := by
  rw [Lib.tail_size]
  omega

theorem head_small (s : ByteArray) (i n : Nat) (hi : i ≤ s.size) (h : s.size ≤ n) : (s.extract 0 i).size ≤ n := by
  rw [Plain.head_size s i hi]
  omega

/-- The four tests of the law, in the walk's own form. -/
theorem tests (s : ByteArray) (i : Nat) (hi : i ≤ s.size) :
    (Count.quarter s : Int) ≤ Count.quarter (s.extract 0 i) + Count.quarter (s.extract i s.size)
    ∧ (Count.quarter (s.extract 0 i) : Int) + Count.quarter (s.extract i s.size) - 2 ≤ Count.quarter s
    ∧ ((s.size : Int) + 15) / 16 ≤ Count.quarter s ∧ (Count.quarter s : Int) ≤ ((s.size : Int) + 3) / 4 := by
  obtain ⟨h1, h2, h3, h4⟩ := Plain.law_cut s i hi
  unfold Count.quarter
  refine ⟨by omega, by omega, by omega, by omega⟩

set_option maxHeartbeats 1000000 in
theorem walk_in (s : ByteArray) (i : Nat) (h : s.size ≤ 1048576) (hi : i ≤ s.size) (w : World) :
    Calls Try.prog 5 #[.string s, .int .i64 i] w fun e w' => e = .returned (.bool true) ∧ Below w.heap.size w w' := by
  have h0 : ¬ (i : Int) < 0 := by omega
  have h1 : ¬ (s.size : Int) < (i : Int) := by omega
  obtain ⟨t1, t2, t3, t4⟩ := tests s i hi
  have q1 : Count.quarter (s.extract 0 i) ≤ 1048576 := Nat.le_trans (quarter_le _) (head_small s i _ hi h)
  have q2 : Count.quarter (s.extract i s.size) ≤ 1048576 := Nat.le_trans (quarter_le _) (tail_small s i _ h)
  go_enter Try.func5, Try.ntmps5
  go_wp2_with (first
    | (go_at_call 12; refine (bytes_small _ _ h _).mono ?_; rintro e w' ⟨rfl, rfl⟩)
    | (go_at_call 11; refine (Count.text_any _ _ (by omega)).mono ?_; rintro e w1 ⟨rfl, hb1⟩))
  go_region_with (go_at_call 11; refine (Count.text_any (s.extract 0 i) _ ?_).mono ?_; exact head_small s i _ hi (by omega); rintro e w2 ⟨rfl, hb2⟩)
  go_wp2
  go_region_with (go_at_call 11; refine (Count.text_any (s.extract i s.size) _ ?_).mono ?_; exact tail_small s i _ (by omega); rintro e w3 ⟨rfl, hb3⟩)
  go_wp2
  go_ret
  exact ⟨rfl, ((((Below.refl _ _).alloc (Nat.le_refl _) _).trans (hb1.mono (by simp))).drew.trans (hb2.mono (by have := hb1.size; simp at this ⊢; omega))).drew.trans (hb3.mono (by have := hb1.size; have := hb2.size; simp at *; omega))⟩

theorem walk (a0 : ByteArray) (a1 : Int) (w : World) :
    Calls Try.prog 5 #[.string a0, .int .i64 a1] w fun e w' => e = .returned (.bool true) ∧ Below w.heap.size w w' := by
  by_cases h : a0.size ≤ 1048576
  · by_cases hi : 0 ≤ a1 ∧ a1 ≤ (a0.size : Int)
    · obtain ⟨h0, h1⟩ := hi
      obtain ⟨i, rfl⟩ := Int.eq_ofNat_of_zero_le h0
      exact walk_in a0 i h (by omega) w
    · exact walk_out a0 a1 h (by omega) w
  · exact walk_great a0 a1 (by omega) w

end Go.Proofs.Qxb6613426a.fnChars4SplitAnywhere
