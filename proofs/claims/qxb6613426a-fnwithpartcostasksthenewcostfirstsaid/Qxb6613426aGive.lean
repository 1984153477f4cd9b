/-
  THE WALKS OF WHAT A COST GIVES: a constant one; one stacked on another.
-/
import Derived.Test.Qxb6613426aRows
import Derived.WalkKit
import Derived.ProofKit
import Derived.WalkSpells
import Derived.WalkLawsBesides
import Derived.Deep.QuietTactic
import Derived.BigQuiet
import Derived.Deep.RegionWith
import Derived.Laws.EntriesVeiled
import Derived.Below
import Derived.WalkSmall
import Derived.Test.Qxb6613426aCost
namespace Go.Proofs.Qxb6613426a.Cost
open Go.RowKit

theorem func_not_nil (f : Fn) (b c : Array Value) (w : World) : (binOp .eql 45 (.func f b c) .nilFunc).run Try.prog w = .ok (.bool false) w := by kernel_rfl

set_option maxRecDepth 100000 in
set_option maxHeartbeats 400000 in
theorem const_gives (x : Int) (ok : Bool) (s t : ByteArray) (p q : Nat) (w : World) (hp : w.cell? ⟨p, 0, none⟩ = some (.int .i64 x)) (hq : w.cell? ⟨q, 0, none⟩ = some (.bool ok)) :
    Calls Try.prog 26 #[.string s, .string t, .pointer (some ⟨p, 0, none⟩), .pointer (some ⟨q, 0, none⟩)] w fun e w' => e = .returned (.tuple #[.int .i64 x, .bool ok]) ∧ ∃ n, w' = w.drewN n := by
  go_enter Try.func26, Try.ntmps26
  go_wp2
  go_quiet (fail)
  go_wp2
  go_ret2
  exact ⟨rfl, _, rfl⟩

/-- Does a constant cost give one? -/
def gives (x : Int) (ok : Bool) : Bool := ok && decide (0 ≤ x)

set_option maxRecDepth 100000 in
set_option maxHeartbeats 400000 in
theorem give_const (x : Int) (ok : Bool) (s t : ByteArray) (p q : Nat) (w : World) (hp : w.cell? ⟨p, 0, none⟩ = some (.int .i64 x)) (hq : w.cell? ⟨q, 0, none⟩ = some (.bool ok)) :
    Calls Try.prog 22 #[.func (.func 26) #[] #[.pointer (some ⟨p, 0, none⟩), .pointer (some ⟨q, 0, none⟩)], .string s, .string t] w fun e w' => e = .returned (.tuple #[.int .i64 x, .bool (gives x ok)]) ∧ ∃ n, w' = w.drewN n := by
  have hn := func_not_nil (.func 26) #[] #[.pointer (some ⟨p, 0, none⟩), .pointer (some ⟨q, 0, none⟩)]
  cases ok
  · go_enter Try.func22, Try.ntmps22
    go_wp2_with fail
    refine (const_gives x false s t p q w hp hq).mono ?_
    rintro e w' ⟨rfl, n, rfl⟩
    go_wp2
    go_ret2
    exact ⟨rfl, _, rfl⟩
  · go_enter Try.func22, Try.ntmps22
    go_wp2_with fail
    refine (const_gives x true s t p q w hp hq).mono ?_
    rintro e w' ⟨rfl, n, rfl⟩
    go_wp2
    go_ret2
    exact ⟨rfl, _, rfl⟩

set_option maxRecDepth 100000 in
set_option maxHeartbeats 400000 in
/-- A stacked cost: b's cells at p, q; a's at p', q'. -/
theorem or_gives (a b : Int) (okA okB : Bool) (s t : ByteArray) (p q p' q' c d : Nat) (w : World)
    (hc : w.cell? ⟨c, 0, none⟩ = some (.func (.func 26) #[] #[.pointer (some ⟨p, 0, none⟩), .pointer (some ⟨q, 0, none⟩)])) (hd : w.cell? ⟨d, 0, none⟩ = some (.func (.func 26) #[] #[.pointer (some ⟨p', 0, none⟩), .pointer (some ⟨q', 0, none⟩)]))
    (hp : w.cell? ⟨p, 0, none⟩ = some (.int .i64 b)) (hq : w.cell? ⟨q, 0, none⟩ = some (.bool okB)) (hp' : w.cell? ⟨p', 0, none⟩ = some (.int .i64 a)) (hq' : w.cell? ⟨q', 0, none⟩ = some (.bool okA)) :
    Calls Try.prog 29 #[.string s, .string t, .pointer (some ⟨c, 0, none⟩), .pointer (some ⟨d, 0, none⟩)] w fun e w' => e = .returned (.tuple #[.int .i64 (if gives b okB then b else a), .bool (gives b okB || gives a okA)]) ∧ ∃ n, w' = w.drewN n := by
  cases hg : gives b okB
  · go_enter Try.func29, Try.ntmps29
    go_wp2_with fail
    refine (give_const b okB s t p q w hp hq).mono ?_
    rintro e w' ⟨rfl, n, rfl⟩
    go_wp2_with fail
    refine (give_const a okA s t p' q' (w.drewN n) hp' hq').mono ?_
    rintro e w' ⟨rfl, m, rfl⟩
    go_wp2_with fail
    go_ret2
    exact ⟨rfl, _, rfl⟩
  · go_enter Try.func29, Try.ntmps29
    go_wp2_with fail
    refine (give_const b okB s t p q w hp hq).mono ?_
    rintro e w' ⟨rfl, n, rfl⟩
    go_wp2_with fail
    go_ret2
    exact ⟨rfl, _, rfl⟩

/-- What a stacked cost gives. -/
def tok (a b : Int) (okB : Bool) : Int := if gives b okB then b else a

theorem tok_pos (a b : Int) (okA okB : Bool) (h : (gives b okB || gives a okA) = true) : 0 ≤ tok a b okB := by
  unfold tok
  unfold gives at *
  cases okB <;> cases okA <;> simp at h ⊢
  · exact h
  · split <;> omega
  · split <;> omega

set_option maxRecDepth 100000 in
set_option maxHeartbeats 400000 in
theorem give_or (a b : Int) (okA okB : Bool) (s t : ByteArray) (p q p' q' c d : Nat) (w : World)
    (hc : w.cell? ⟨c, 0, none⟩ = some (.func (.func 26) #[] #[.pointer (some ⟨p, 0, none⟩), .pointer (some ⟨q, 0, none⟩)])) (hd : w.cell? ⟨d, 0, none⟩ = some (.func (.func 26) #[] #[.pointer (some ⟨p', 0, none⟩), .pointer (some ⟨q', 0, none⟩)]))
    (hp : w.cell? ⟨p, 0, none⟩ = some (.int .i64 b)) (hq : w.cell? ⟨q, 0, none⟩ = some (.bool okB)) (hp' : w.cell? ⟨p', 0, none⟩ = some (.int .i64 a)) (hq' : w.cell? ⟨q', 0, none⟩ = some (.bool okA)) :
    Calls Try.prog 22 #[.func (.func 29) #[] #[.pointer (some ⟨c, 0, none⟩), .pointer (some ⟨d, 0, none⟩)], .string s, .string t] w fun e w' => e = .returned (.tuple #[.int .i64 (tok a b okB), .bool (gives b okB || gives a okA)]) ∧ ∃ n, w' = w.drewN n := by
  have hn := func_not_nil (.func 29) #[] #[.pointer (some ⟨c, 0, none⟩), .pointer (some ⟨d, 0, none⟩)]
  have H := or_gives a b okA okB s t p q p' q' c d w hc hd hp hq hp' hq'
  rw [show (if gives b okB then b else a) = tok a b okB from rfl] at H
  have hpos := tok_pos a b okA okB
  generalize tok a b okB = v at *
  generalize (gives b okB || gives a okA) = g at *
  clear hc hd hp hq hp' hq'
  have HH : Hid (Calls Try.prog 29 #[.string s, .string t, .pointer (some ⟨c, 0, none⟩), .pointer (some ⟨d, 0, none⟩)] w fun e w' => e = .returned (.tuple #[.int .i64 v, .bool g]) ∧ ∃ n, w' = w.drewN n) := H
  clear H
  cases g
  · clear hpos
    go_enter Try.func22, Try.ntmps22
    go_wp2_with fail
    refine HH.out.mono ?_
    rintro e w' ⟨rfl, n, rfl⟩
    go_wp2
    go_ret2
    exact ⟨rfl, _, rfl⟩
  · have hv : 0 ≤ v := hpos rfl
    clear hpos
    go_enter Try.func22, Try.ntmps22
    go_wp2_with fail
    refine HH.out.mono ?_
    rintro e w' ⟨rfl, n, rfl⟩
    go_wp2
    go_ret2
    exact ⟨rfl, _, rfl⟩

end Go.Proofs.Qxb6613426a.Cost
