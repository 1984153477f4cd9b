/-
  THE WALKS OF unicode/utf8.RuneCountInString AND OF Chars4.CountText: at every string.
-/
import Derived.Test.Qxb6613426aRows
import Derived.WalkKit
import Derived.ProofKit
import Derived.Lib.RuneCount
import Derived.Laws.RangeString
import Derived.Laws.RangeAny
import Derived.LoopTactic
import Derived.Below
namespace Go.Proofs.Qxb6613426a.Count
open Go.RowKit

set_option maxHeartbeats 1000000 in
theorem runes_any (s : ByteArray) (w : World) (hs : s.size < 9223372036854775807) :
    Calls Try.prog 19 #[.string s] w fun e w' => e = .returned (.int .i64 (Lib.runeCount s)) ∧ ∃ pos, w' = w.iter s pos := by
  go_enter Try.func19, Try.ntmps19
  go_wp2
  go_loopw [2] (fun n w' => ∃ (pos b acc : Nat), w' = w.iter s pos ∧ n = .int .i64 acc ∧ acc + Lib.runeCountFrom s b pos = Lib.runeCount s ∧ s.size ≤ pos + b ∧ acc ≤ pos) (fun _ w' => s.size - w'.iterPos w.heap.size)
  case atStart => exact ⟨0, s.size, 0, rfl, rfl, by simp [Lib.runeCount], by omega, Nat.le_refl _⟩
  case round =>
    obtain ⟨pos, b, acc, rfl, rfl, hc, hb, ha⟩ := hrel
    by_cases hp : pos < s.size
    · have hnx : ∀ ty, (Instr.next (.pointer (some ⟨w.heap.size, 0, none⟩)) true ty).run Try.prog (w.iter s pos) = _ := fun ty => run_next_any w s pos ty hp
      have hwd := Lib.decode_width_pos s pos hp
      go_wp2
      go_roundw
      case rel =>
        cases b with
        | zero => omega
        | succ b =>
          refine ⟨pos + (Utf8.decode s pos).2, b, acc + 1, rfl, by go_num, ?_, by omega, by omega⟩
          rw [← hc]
          simp [Lib.runeCountFrom, hp]
          omega
      case measure =>
        simp
        omega
    · have hnx : ∀ ty, (Instr.next (.pointer (some ⟨w.heap.size, 0, none⟩)) true ty).run Try.prog (w.iter s pos) = _ := fun ty => run_next_end w s pos ty hp
      go_wp2
      go_ret
      rw [Lib.runeCountFrom_end s b pos hp, Nat.add_zero] at hc
      subst hc
      exact ⟨rfl, _, rfl⟩

/-- What CountText gives. -/
def quarter (s : ByteArray) : Nat := (Lib.runeCount s + 3) / 4

set_option maxHeartbeats 400000 in
theorem text_any (s : ByteArray) (w : World) (hs : s.size ≤ 1099511627776) :
    Calls Try.prog 11 #[.agg #[], .string s] w fun e w' => e = .returned (.int .i64 (quarter s)) ∧ Below w.heap.size w w' := by
  have hle := Lib.runeCount_le s
  go_enter Try.func11, Try.ntmps11
  go_wp2_with (go_at_call 19; refine (runes_any _ _ (by omega)).mono ?_; rintro e w' ⟨rfl, pos, rfl⟩)
  go_ret
  exact ⟨rfl, ((Below.refl _ _).alloc (Nat.le_refl _) _).alloc (by simp) _⟩

end Go.Proofs.Qxb6613426a.Count
