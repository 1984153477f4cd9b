/-
  THE WALKS OF ZZgiveWithPartCostOnce AND ZZgiveWithPartCostStacked.
-/
import Derived.Test.Qxb6613426aGive
namespace Go.Proofs.Qxb6613426a.Cost
open Go.RowKit

theorem cell_new (w : World) (c : Array Value) (t : TypeId) (n i : Nat) (v : Value) (hn : n = w.heap.size) (hv : c[i]? = some v) : (w.alloc (.cells c t)).cell? ⟨n, i, none⟩ = some v := by
  rw [World.cell?_alloc_at c t n i hn, hv]

theorem cell_old (w : World) (o : Obj) (n i : Nat) (v : Value) (hn : n < w.heap.size) (h : w.cell? ⟨n, i, none⟩ = some v) : (w.alloc o).cell? ⟨n, i, none⟩ = some v := by
  rw [← h]
  exact World.cell?_of_block (w := w) (Below.heap_alloc w o n hn)

theorem cell_drew {w : World} {x : Addr} {v : Value} (h : w.cell? x = some v) : w.drew.cell? x = some v := h

set_option maxRecDepth 100000 in
set_option maxHeartbeats 400000 in
theorem once_any (x : Int) (ok : Bool) (s t : ByteArray) (w : World) :
    Calls Try.prog 14 #[.int .i64 x, .bool ok, .string s, .string t] w fun e w' => e = .returned (.tuple #[.int .i64 x, .bool (gives x ok), .bool true]) ∧ Below w.heap.size w w' := by
  have ha := assert_yes
  go_enter Try.func14, Try.ntmps14
  go_wp2_with fail
  refine (const_any x ok w).mono ?_
  rintro e w' ⟨rfl, rfl⟩
  go_wp2_with fail
  refine (with_plain _ _ _ _).mono ?_
  rintro e w' ⟨rfl, rfl⟩
  go_wp2_with fail
  refine (give_const x ok s t _ _ _ ?c1 ?c2).mono ?_
  case c1 => exact cell_old _ _ _ _ _ (by simp; omega) (cell_old _ _ _ _ _ (by simp; omega) (cell_old _ _ _ _ _ (by simp) (cell_new _ _ _ _ _ _ rfl rfl)))
  case c2 => exact cell_old _ _ _ _ _ (by simp) (cell_old _ _ _ _ _ (by simp) (cell_new _ _ _ _ _ _ (by simp) rfl))
  rintro e w' ⟨rfl, n, rfl⟩
  go_wp2
  go_ret3
  exact ⟨rfl, below_drewN (((((Below.refl _ _).alloc (Nat.le_refl _) _).alloc (by simp) _).alloc (by simp; omega) _).alloc (by simp; omega) _) _⟩

set_option maxRecDepth 100000 in
set_option maxHeartbeats 400000 in
theorem stacked_any (a : Int) (okA : Bool) (b : Int) (okB : Bool) (s t : ByteArray) (w : World) :
    Calls Try.prog 15 #[.int .i64 a, .bool okA, .int .i64 b, .bool okB, .string s, .string t] w fun e w' => e = .returned (.tuple #[.int .i64 (tok a b okB), .bool (gives b okB || gives a okA), .bool true]) ∧ Below w.heap.size w w' := by
  have ha := assert_yes
  go_enter Try.func15, Try.ntmps15
  go_wp2_with fail
  refine (const_any a okA w).mono ?_
  rintro e w' ⟨rfl, rfl⟩
  go_wp2_with fail
  refine (with_plain _ _ _ _).mono ?_
  rintro e w' ⟨rfl, rfl⟩
  go_wp2_with fail
  refine (const_any b okB _).mono ?_
  rintro e w' ⟨rfl, rfl⟩
  go_wp2_with fail
  refine (with_costed _ _ _ _ _ _ _).mono ?_
  rintro e w' ⟨rfl, rfl⟩
  go_wp2_with fail
  refine (give_or a b okA okB s t (w.heap.size + 1 + 1 + 1) (w.heap.size + 1 + 1 + 1 + 1) w.heap.size (w.heap.size + 1) _ _ _ ?c1 ?c2 ?c3 ?c4 ?c5 ?c6).mono ?_
  case c1 => exact cell_drew (by repeat (first | exact cell_new _ _ _ _ _ _ (by simp) rfl | refine cell_old _ _ _ _ _ (by simp <;> omega) ?_))
  case c2 => exact cell_drew (by repeat (first | exact cell_new _ _ _ _ _ _ (by simp) rfl | refine cell_old _ _ _ _ _ (by simp <;> omega) ?_))
  case c3 => exact cell_drew (by repeat (first | exact cell_new _ _ _ _ _ _ (by simp) rfl | refine cell_old _ _ _ _ _ (by simp <;> omega) ?_))
  case c4 => exact cell_drew (by repeat (first | exact cell_new _ _ _ _ _ _ (by simp) rfl | refine cell_old _ _ _ _ _ (by simp <;> omega) ?_))
  case c5 => exact cell_drew (by repeat (first | exact cell_new _ _ _ _ _ _ (by simp) rfl | refine cell_old _ _ _ _ _ (by simp <;> omega) ?_))
  case c6 => exact cell_drew (by repeat (first | exact cell_new _ _ _ _ _ _ (by simp) rfl | refine cell_old _ _ _ _ _ (by simp <;> omega) ?_))
  rintro e w' ⟨rfl, n, rfl⟩
  go_wp2
  go_ret3
  refine ⟨rfl, below_drewN ?_ _⟩
  repeat (first | exact Below.refl _ _ | refine Below.alloc ?_ (by simp <;> omega) _)

end Go.Proofs.Qxb6613426a.Cost
