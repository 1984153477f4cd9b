/-
  THE WALK OF plainRun: n plain letters.
-/
import Derived.Test.Qxb6613426aRows
import Derived.WalkKit
import Derived.ProofKit
import Derived.WalkSpells
import Derived.WalkLawsBesides
import Derived.Deep.OwnRows
import Derived.Laws.BytesArg
import Derived.Below
import Derived.Test.Qxb6613426aPlain
namespace Go.Proofs.Qxb6613426a.Run
open Go.RowKit

/-- The letter at place j. -/
def letter (j : Nat) : Int := 97 + (j : Int) % 26
/-- n plain letters. -/
def letters (n : Nat) : ByteArray := strOfNums ((List.range n).map letter)

theorem letter_bd (j : Nat) : 97 ≤ letter j ∧ letter j ≤ 122 := by unfold letter; omega

theorem letters_size (n : Nat) : (letters n).size = n := by
  unfold letters
  rw [strOfNums_size]
  simp

theorem letters_ascii (n : Nat) : ∀ j, j < (letters n).size → ((letters n).get! j).toNat < 128 := by
  intro j hj
  rw [letters_size] at hj
  rw [← Lib.getD_get!']
  unfold letters
  rw [strOfNums_data]
  have hb := letter_bd j
  simp [List.getD, hj]
  omega

/-- What lies in the row when k letters are written. -/
def cellAt (k j : Nat) : Value := .int .u8 (if j < k then letter j else 0)

theorem info5 : (Try.prog.info? 5).map (fun i => (i.zero, i.size, i.bytes)) = some (some (.int .u8 0), 1, 1) := by kernel_rfl

theorem row_made (w : World) (n j : Nat) (hj : j < n) : (w.alloc (.cells (madeCells #[.int .u8 0] n) 5)).cell? ⟨w.heap.size, j, none⟩ = some (cellAt 0 j) := by
  rw [World.cell?_alloc_at _ _ _ _ rfl]
  simp [madeCells, hj, Nat.mod_one, cellAt]

/-- The row, its cells and marks, when k letters are written. -/
def RowAt (B n k : Nat) (w : World) : Prop := ∀ j, j < n → w.cell? ⟨B, j, none⟩ = some (cellAt k j) ∧ w.frozen? ⟨B, j, none⟩ = false

theorem RowAt.start (w : World) (n : Nat) : RowAt w.heap.size n 0 (w.alloc (.cells (madeCells #[.int .u8 0] n) 5)) :=
  fun j hj => ⟨row_made w n j hj, World.frozen?_alloc_at _ _ _ _ rfl⟩

theorem RowAt.step {B n k : Nat} {w : World} (h : RowAt B n k w) (hk : k < n) (v : Value) (hv : v = .int .u8 (letter k)) : RowAt B n (k + 1) (w.setCell ⟨B, k, none⟩ v) := by
  intro j hj
  obtain ⟨hc, hf⟩ := h j hj
  refine ⟨?_, by rw [World.frozen?_setCell]; exact hf⟩
  by_cases e : j = k
  · subst e
    rw [World.cell?_setCell_same _ _ _ hc, hv]
    unfold cellAt
    rw [if_pos (by omega)]
  · rw [World.cell?_setCell_other _ _ _ _ (by intro he; injection he; omega), hc]
    unfold cellAt
    by_cases e2 : j < k
    · rw [if_pos e2, if_pos (by omega)]
    · rw [if_neg e2, if_neg (by omega)]

theorem RowAt.conv {B n : Nat} {w : World} (h : RowAt B n n w) : (convert 41 9 (.slice (some ⟨B, 0, none⟩) n n)).run Try.prog w = .ok (.string (letters n)) w := by
  refine run_convert_bytes_arg (P := Try.prog) w 41 5 Try.underlying41 Try.underlying5 B 0 n n ((List.range n).map letter) (by simp) (fun i hi => ?_) 9 Try.underlying9
  rw [Nat.zero_add, (h i hi).1]
  unfold cellAt
  rw [if_pos hi]
  simp [List.getD, hi]

set_option maxHeartbeats 1000000 in
theorem run_any (n : Nat) (hn : n ≤ 262144) (w : World) :
    Calls Try.prog 10 #[.int .i64 n] w fun e w' => e = .returned (.string (letters n)) ∧ Below w.heap.size w w' := by
  have hmk := run_make_row' (P := Try.prog) 41 5 (.int .u8 0) 1 Try.underlying41 info5 rfl .i64 .i64 n (by omega) (by omega)
  go_enter Try.func10, Try.ntmps10
  go_wp2
  go_loopw [4] (fun i wr => ∃ k : Nat, k ≤ n ∧ i = .int .i64 k ∧ RowAt w.heap.size n k wr ∧ Below w.heap.size w wr) (fun i _ => n - (intOf i).toNat)
  case atStart => exact ⟨0, Nat.zero_le _, rfl, RowAt.start w n, (Below.refl _ _).alloc (Nat.le_refl _) _⟩
  case round =>
    obtain ⟨k, hk, rfl, hrow, hbel⟩ := hrel
    by_cases hlt : k < n
    · have hc := (hrow k hlt).1
      have hf := (hrow k hlt).2
      go_wp2
      go_roundw
      case rel => exact ⟨k + 1, by omega, by go_num, hrow.step hlt _ rfl, hbel.setCell (Nat.le_refl _) _⟩
      case measure => simp [intOf]; omega
    · obtain rfl : n = k := by omega
      have hcv := hrow.conv
      clear hmk hrow hk
      go_wp2
      go_ret
      exact ⟨rfl, hbel⟩
end Go.Proofs.Qxb6613426a.Run
