/-
  THE WALKS OF THE COSTS: zzConstCost, WithPartCost, PartCost.give, PartCost.or.
-/
import Derived.Test.Qxb6613426aRows
import Derived.WalkKit
import Derived.ProofKit
import Derived.WalkSpells
import Derived.WalkLawsBesides
import Derived.Deep.QuietTactic
import Derived.BigQuiet
import Derived.Deep.RegionWith
import Derived.Laws.EntriesVeiled
import Derived.Below
import Derived.WalkSmall
namespace Go.Proofs.Qxb6613426a.Cost
open Go.RowKit

set_option maxRecDepth 100000 in
set_option maxHeartbeats 400000 in
theorem const_any (x : Int) (ok : Bool) (w : World) :
    Calls Try.prog 21 #[.int .i64 x, .bool ok] w fun e w' =>
      e = .returned (.func (.func 26) #[] #[.pointer (some ⟨w.heap.size, 0, none⟩), .pointer (some ⟨w.heap.size + 1, 0, none⟩)])
      ∧ w' = (w.alloc (.cells #[.int .i64 x] 3)).alloc (.cells #[.bool ok] 4) := by
  go_enter Try.func21, Try.ntmps21
  go_wp2
  go_ret
  exact ⟨rfl, rfl⟩

theorem assert_no (w : World) : (Instr.typeAssert (.iface 28 (.agg #[])) 43 47 true).run Try.prog w = .ok (.tuple #[.agg #[.nilIface, .nilFunc], .bool false]) w := by kernel_rfl
theorem assert_yes (u v : Value) (w : World) : (Instr.typeAssert (.iface 47 (.agg #[u, v])) 43 47 true).run Try.prog w = .ok (.tuple #[.agg #[u, v], .bool true]) w := by kernel_rfl

set_option maxRecDepth 100000 in
set_option maxHeartbeats 400000 in
theorem with_plain (f : Fn) (b c : Array Value) (w : World) :
    Calls Try.prog 20 #[.iface 28 (.agg #[]), .func f b c] w fun e w' => e = .returned (.iface 47 (.agg #[.iface 28 (.agg #[]), .func f b c])) ∧ w' = w.alloc (.cells #[.nilIface, .nilFunc] 47) := by
  have ha := assert_no
  go_enter Try.func20, Try.ntmps20
  go_wp2
  go_ret
  exact ⟨rfl, rfl⟩

set_option maxRecDepth 100000 in
set_option maxHeartbeats 400000 in
theorem or_any (f g : Fn) (b c d h : Array Value) (w : World) :
    Calls Try.prog 25 #[.func f b c, .func g d h] w fun e w' =>
      e = .returned (.func (.func 29) #[] #[.pointer (some ⟨w.heap.size, 0, none⟩), .pointer (some ⟨w.heap.size + 1, 0, none⟩)])
      ∧ w' = (w.alloc (.cells #[.func f b c] 45)).alloc (.cells #[.func g d h] 45) := by
  go_enter Try.func25, Try.ntmps25
  go_wp2
  go_ret
  exact ⟨rfl, rfl⟩

set_option maxRecDepth 100000 in
set_option maxHeartbeats 400000 in
theorem with_costed (f g : Fn) (b c d h : Array Value) (w : World) :
    Calls Try.prog 20 #[.iface 47 (.agg #[.iface 28 (.agg #[]), .func g d h]), .func f b c] w fun e w' =>
      e = .returned (.iface 47 (.agg #[.iface 28 (.agg #[]), .func (.func 29) #[] #[.pointer (some ⟨w.heap.size + 1, 0, none⟩), .pointer (some ⟨w.heap.size + 1 + 1, 0, none⟩)]]))
      ∧ w' = (((w.alloc (.cells #[.iface 28 (.agg #[]), .func g d h] 47)).alloc (.cells #[.func f b c] 45)).alloc (.cells #[.func g d h] 45)).drew := by
  have ha := assert_yes (.iface 28 (.agg #[])) (.func g d h)
  go_enter Try.func20, Try.ntmps20
  go_wp2
  go_region_with (go_at_call 25; refine (or_any f g b c d h _).mono ?_; rintro e w' ⟨rfl, rfl⟩)
  all_goals
    go_wp2
    go_ret
    exact ⟨rfl, rfl⟩

end Go.Proofs.Qxb6613426a.Cost
