/-
  'make' AND 'copy' OVER SLICES OF int64, IN TERMS OF CELLS.
-/
import Derived.Test.Qxb6613485aRows
import Derived.WalkKit
import Derived.Laws.IdiomCopy
import Derived.Deep.OwnRows
import Derived.Below
namespace Go.Proofs.Qxb6613485a.Copy
open Go.RowKit

/-- Block b holds a row of m numbers, none of them frozen. -/
def Row (w : World) (b m : Nat) : Prop := ∃ f : Nat → Int, ∀ j, j < m → w.cell? ⟨b, j, none⟩ = some (.int .i64 (f j)) ∧ w.frozen? ⟨b, j, none⟩ = false
/-- From address x on k numbers can be read. -/
def Reads (w : World) (x : Addr) (k : Nat) : Prop := ∃ f : Nat → Int, ∀ j, j < k → w.cell? (x.add j) = some (.int .i64 (f j))

theorem Row.reads {w : World} {b m k : Nat} (h : Row w b m) (hk : k ≤ m) : Reads w ⟨b, 0, none⟩ k := by
  obtain ⟨f, hf⟩ := h
  refine ⟨f, fun j hj => ?_⟩
  have e : (⟨b, 0, none⟩ : Addr).add j = ⟨b, j, none⟩ := by unfold Addr.add; split <;> simp_all
  rw [e]
  exact (hf j (by omega)).1

theorem Row.below {w w' : World} {b m B : Nat} (h : Row w b m) (hb : Below B w w') (hB : b < B) : Row w' b m := by
  obtain ⟨f, hf⟩ := h
  exact ⟨f, fun j hj => ⟨(hb.cell (p := ⟨b, j, none⟩) hB).trans (hf j hj).1, (hb.frozen (p := ⟨b, j, none⟩) hB).trans (hf j hj).2⟩⟩

theorem Reads.alloc {w : World} {x : Addr} {k : Nat} (h : Reads w x k) (o : Obj) : Reads (w.alloc o) x k := by
  obtain ⟨f, hf⟩ := h
  refine ⟨f, fun j hj => ?_⟩
  have hc := hf j hj
  rw [World.cell?_alloc_lt _ _ _ (World.block_lt_of_cell? w _ hc)]
  exact hc

theorem Row.made (w : World) (m : Nat) : Row (w.alloc (.cells (madeCells #[.int .i64 0] m) 2)) w.heap.size m := by
  refine ⟨fun _ => 0, fun j hj => ⟨?_, World.frozen?_alloc_at _ _ _ _ rfl⟩⟩
  rw [World.cell?_alloc_at _ _ _ _ rfl]
  simp [madeCells, hj, Nat.mod_one]

theorem size_setCells (b : Nat) : ∀ (vs : List Value) (o : Nat) (w : World), (w.setCells b o vs).heap.size = w.heap.size
  | [], _, _ => rfl
  | v :: r, o, w => by rw [World.setCells, size_setCells b r]; simp [World.setCell]

theorem below_setCells {B b : Nat} (hb : B ≤ b) : ∀ (vs : List Value) (o : Nat) (a w : World), Below B a w → Below B a (w.setCells b o vs)
  | [], _, _, _, h => h
  | v :: r, o, a, _, h => below_setCells hb r (o + 1) a _ (h.setCell (p := ⟨b, o, none⟩) hb v)

theorem info2 : (Try.prog.info? 2).map (·.size) = some 1 := by kernel_rfl
theorem info2' : (Try.prog.info? 2).map (fun i => (i.zero, i.size, i.bytes)) = some (some (.int .i64 0), 1, 8) := by kernel_rfl

/-- k numbers go over, from place o of the row on. -/
theorem copy_run {w : World} {x : Addr} {b o k c m cap M : Nat} (hr : Reads w x k) (hrow : Row w b M) (hok : o + k ≤ M) (hkm : k ≤ m) :
    ∃ w1, (∀ ty, (Builtin.copy_ #[25, 25] ty #[.slice (some ⟨b, o, none⟩) m cap, .slice (some x) k c]).run Try.prog w = .ok (goInt k) w1) ∧ (∀ B, B ≤ b → Below B w w1) ∧ Row w1 b M ∧ w1.heap.size = w.heap.size := by
  obtain ⟨f, hf⟩ := hr
  obtain ⟨g, hg⟩ := hrow
  have hl : ((List.range k).map fun j => Value.int .i64 (f j)).length = k := by simp
  have hc : ∀ j, j < k → (w.cell? ⟨b, o + j, none⟩).isSome = true := fun j hj => by rw [(hg (o + j) (by omega)).1]; rfl
  refine ⟨w.setCells b o ((List.range k).map fun j => Value.int .i64 (f j)), fun ty => ?_, fun B hB => below_setCells hB _ _ _ _ (Below.refl _ _), ?_, size_setCells _ _ _ _⟩
  · have h := run_copy_cells (P := Try.prog) w 25 25 ty 2 b o m cap x k c ((List.range k).map fun j => Value.int .i64 (f j)) Try.underlying25 info2
      (by rw [hl]; exact (Nat.min_eq_left hkm).symm)
      (fun j v hj => by
        have hjk : j < k := by
          rcases Nat.lt_or_ge j k with h | h
          · exact h
          · rw [List.getElem?_eq_none (by rw [hl]; exact h)] at hj; cases hj
        rw [hf j hjk]
        simp [hjk] at hj
        rw [hj])
      (fun j hj => hc j (by rw [hl] at hj; exact hj)) (fun j hj => (hg (o + j) (by rw [hl] at hj; omega)).2)
      (fun v hv => by
        simp at hv
        obtain ⟨j, _, rfl⟩ := hv
        rfl)
    rw [hl] at h
    exact h
  · refine ⟨fun j => if o ≤ j ∧ j < o + k then f (j - o) else g j, fun j hj => ⟨?_, ?_⟩⟩
    · by_cases hin : o ≤ j ∧ j < o + k
      · have h := World.cell?_setCells_in b ((List.range k).map fun j => Value.int .i64 (f j)) o w (fun i hi => hc i (by rw [hl] at hi; exact hi)) (j - o) (by rw [hl]; omega)
        rw [show o + (j - o) = j by omega] at h
        rw [h]
        simp only [if_pos hin]
        simp
      · rw [World.cell?_setCells_out b _ o w ⟨b, j, none⟩ (fun _ _ => by rw [hl]; show j < o ∨ o + k ≤ j; omega)]
        simp only [if_neg hin]
        exact (hg j hj).1
    · rw [World.frozen?_setCells]
      exact (hg j hj).2

/-- A slice of k numbers that can be read: nil, or some row. -/
def Src (w : World) (a : Option Addr) (k : Nat) : Prop := (a = none ∧ k = 0) ∨ ∃ x, a = some x ∧ Reads w x k

theorem Src.alloc {w : World} {a : Option Addr} {k : Nat} (h : Src w a k) (o : Obj) : Src (w.alloc o) a k := by
  rcases h with h | ⟨x, hx, hr⟩
  · exact .inl h
  · exact .inr ⟨x, hx, hr.alloc o⟩

theorem Row.src {w : World} {b m : Nat} (h : Row w b m) : Src w (some ⟨b, 0, none⟩) m := .inr ⟨_, rfl, h.reads (Nat.le_refl _)⟩

theorem copy_src {w : World} {a : Option Addr} {b o k c m cap M : Nat} (hs : Src w a k) (hrow : Row w b M) (hok : o + k ≤ M) (hkm : k ≤ m) :
    ∃ w1, (∀ ty, (Builtin.copy_ #[25, 25] ty #[.slice (some ⟨b, o, none⟩) m cap, .slice a k c]).run Try.prog w = .ok (goInt k) w1) ∧ (∀ B, B ≤ b → Below B w w1) ∧ Row w1 b M ∧ w1.heap.size = w.heap.size := by
  rcases hs with ⟨rfl, rfl⟩ | ⟨x, rfl, hr⟩
  · exact ⟨w, fun ty => run_copy_none (P := Try.prog) w 25 25 ty 2 _ none m cap 0 c Try.underlying25 info2 (Nat.zero_min m), fun _ _ => Below.refl _ _, hrow, rfl⟩
  · exact copy_run hr hrow hok hkm

/-- A new row of m numbers, k of them copied in: w1 is the world behind both. -/
theorem made_copied (w : World) (a : Option Addr) (k c m : Nat) (hs : Src w a k) (hkm : k ≤ m) :
    ∃ w1, (∀ ty, (Builtin.copy_ #[25, 25] ty #[.slice (some ⟨w.heap.size, 0, none⟩) m m, .slice a k c]).run Try.prog (w.alloc (.cells (madeCells #[.int .i64 0] m) 2)) = .ok (goInt k) w1)
      ∧ Below w.heap.size w w1 ∧ Row w1 w.heap.size m ∧ w1.heap.size = w.heap.size + 1 := by
  obtain ⟨w1, h1, h2, h3, h4⟩ := copy_src (o := 0) (c := c) (m := m) (cap := m) (M := m) (hs.alloc (.cells (madeCells #[.int .i64 0] m) 2)) (Row.made w m) (by omega) hkm
  exact ⟨w1, h1, ((Below.refl _ _).alloc (Nat.le_refl _) _).trans (h2 _ (Nat.le_refl _)), h3, by rw [h4]; simp⟩

end Go.Proofs.Qxb6613485a.Copy
