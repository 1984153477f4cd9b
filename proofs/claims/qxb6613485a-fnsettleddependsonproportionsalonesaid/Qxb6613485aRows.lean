/-
  No cell of these rows narrows 'for every input' (looked for: loops, veiled, ifaces, maps, wideKeys, modest, calm, conditions, laid).
  DERIVED. THE GIVEN ROWS OF THIS SEAT. 4 by the template 'for every input the law returns true; each argument reads behind the call as it read before'; 0 by the template 'total and deterministic' (their statements: Qxb6613485aTotals.lean).
  GIVEN WITH THE SEED: the statements are not yours to turn. If you find one false, say at which input.
  Laid BY PROGRAM, IN A SANDBOX (cutbox-rows.mjs): the forced cells as the released guide's own fill.sh prints them over the translation de7a164291e658d3… (all of the seat's roots in one cut). By AI agents, Wed Nov 11 2026. No macro, syntax, notation, axiom, sorry.
-/
import Derived.Test.Qxb6613485aChecked
import GoSem.Claim
import GoSem.ClaimJoined
import GoSem.ClaimMapViews
import Derived.JoinedTies
import Derived.KernelRfl
namespace Go.Proofs.Qxb6613485a
/- THE CELL 'sum', in the pinned program and in every row, IS THE sha256 OF THE DUMP (.gsa) THAT Qxb6613485aProg.lean LOADS. Nothing in Lean hashes anything: it is a label: what it is worth is what the hold of that sum in a sandbox is worth. -/
noncomputable def Try.pinned : Pinned := { name := "qxb6613485a", sum := "de7a164291e658d381f7829f33a47248dd731e4e900444eb266626077b262b70", checked := Try.checked }
namespace Rows
def none {H : Type} : Left H := { results := [], args := [] }

/-- 'zzlaws_root_b1.FnDriftIsHundredthPlusTwoMsAndKeepsLongerLeasesLonger': WHATEVER THE INPUT: true; the input reads as it did. -/
def fnDriftIsHundredthPlusTwoMsAndKeepsLongerLeasesLongerSpec : ChangeSpec := { name := "fnDriftIsHundredthPlusTwoMsAndKeepsLongerLeasesLonger", fn := fun _ => fun
  | [d1, d2] => { results := [.lit (.bool true)], args := [d1, d2] }
  | _ => none }
def fnDriftIsHundredthPlusTwoMsAndKeepsLongerLeasesLongerRow : OpenClaim := { program := "qxb6613485a", sum := "de7a164291e658d381f7829f33a47248dd731e4e900444eb266626077b262b70", func := "example.com/vie/vie/zzlaws_root_b1.FnDriftIsHundredthPlusTwoMsAndKeepsLongerLeasesLonger", spec := "fnDriftIsHundredthPlusTwoMsAndKeepsLongerLeasesLonger", apart := false }
def FnDriftIsHundredthPlusTwoMsAndKeepsLongerLeasesLongerSaid : Prop := fnDriftIsHundredthPlusTwoMsAndKeepsLongerLeasesLongerRow.holds Try.pinned (OpenSpec.ofChange fnDriftIsHundredthPlusTwoMsAndKeepsLongerLeasesLongerSpec)

/-- ITS FALSE NEIGHBOUR: 'it returns false'. Refute it at one input. -/
def fnDriftIsHundredthPlusTwoMsAndKeepsLongerLeasesLongerWrong : ChangeSpec := { name := "fnDriftIsHundredthPlusTwoMsAndKeepsLongerLeasesLonger", fn := fun _ => fun
  | [d1, d2] => { results := [.lit (.bool false)], args := [d1, d2] }
  | _ => none }
def FnDriftIsHundredthPlusTwoMsAndKeepsLongerLeasesLongerWrongFalsely : Prop := fnDriftIsHundredthPlusTwoMsAndKeepsLongerLeasesLongerRow.holds Try.pinned (OpenSpec.ofChange fnDriftIsHundredthPlusTwoMsAndKeepsLongerLeasesLongerWrong)

/-- 'zzlaws_root_b1.FnDriftGrowsOneNanosecondPerHundred': WHATEVER THE INPUT: true; the input reads as it did. -/
def fnDriftGrowsOneNanosecondPerHundredSpec : ChangeSpec := { name := "fnDriftGrowsOneNanosecondPerHundred", fn := fun _ => fun
  | [d1, d2] => { results := [.lit (.bool true)], args := [d1, d2] }
  | _ => none }
def fnDriftGrowsOneNanosecondPerHundredRow : OpenClaim := { program := "qxb6613485a", sum := "de7a164291e658d381f7829f33a47248dd731e4e900444eb266626077b262b70", func := "example.com/vie/vie/zzlaws_root_b1.FnDriftGrowsOneNanosecondPerHundred", spec := "fnDriftGrowsOneNanosecondPerHundred", apart := false }
def FnDriftGrowsOneNanosecondPerHundredSaid : Prop := fnDriftGrowsOneNanosecondPerHundredRow.holds Try.pinned (OpenSpec.ofChange fnDriftGrowsOneNanosecondPerHundredSpec)

/-- ITS FALSE NEIGHBOUR: 'it returns false'. Refute it at one input. -/
def fnDriftGrowsOneNanosecondPerHundredWrong : ChangeSpec := { name := "fnDriftGrowsOneNanosecondPerHundred", fn := fun _ => fun
  | [d1, d2] => { results := [.lit (.bool false)], args := [d1, d2] }
  | _ => none }
def FnDriftGrowsOneNanosecondPerHundredWrongFalsely : Prop := fnDriftGrowsOneNanosecondPerHundredRow.holds Try.pinned (OpenSpec.ofChange fnDriftGrowsOneNanosecondPerHundredWrong)

/-- 'zzlaws_root_b1.FnSettledStaysSettledAsOutcomesCome': WHATEVER THE INPUT: true; the input reads as it did. -/
def fnSettledStaysSettledAsOutcomesComeSpec : ChangeSpec := { name := "fnSettledStaysSettledAsOutcomesCome", fn := fun _ => fun
  | [d1, d2, d3, d4, d5, d6, d7] => { results := [.lit (.bool true)], args := [d1, d2, d3, d4, d5, d6, d7] }
  | _ => none }
def fnSettledStaysSettledAsOutcomesComeRow : OpenClaim := { program := "qxb6613485a", sum := "de7a164291e658d381f7829f33a47248dd731e4e900444eb266626077b262b70", func := "example.com/vie/vie/zzlaws_root_b1.FnSettledStaysSettledAsOutcomesCome", spec := "fnSettledStaysSettledAsOutcomesCome", apart := false }
def FnSettledStaysSettledAsOutcomesComeSaid : Prop := fnSettledStaysSettledAsOutcomesComeRow.holds Try.pinned (OpenSpec.ofChange fnSettledStaysSettledAsOutcomesComeSpec)

/-- ITS FALSE NEIGHBOUR: 'it returns false'. Refute it at one input. -/
def fnSettledStaysSettledAsOutcomesComeWrong : ChangeSpec := { name := "fnSettledStaysSettledAsOutcomesCome", fn := fun _ => fun
  | [d1, d2, d3, d4, d5, d6, d7] => { results := [.lit (.bool false)], args := [d1, d2, d3, d4, d5, d6, d7] }
  | _ => none }
def FnSettledStaysSettledAsOutcomesComeWrongFalsely : Prop := fnSettledStaysSettledAsOutcomesComeRow.holds Try.pinned (OpenSpec.ofChange fnSettledStaysSettledAsOutcomesComeWrong)

/-- 'zzlaws_root_b1.FnSettledDependsOnProportionsAlone': WHATEVER THE INPUT: true; the input reads as it did. -/
def fnSettledDependsOnProportionsAloneSpec : ChangeSpec := { name := "fnSettledDependsOnProportionsAlone", fn := fun _ => fun
  | [d1, d2, d3, d4, d5] => { results := [.lit (.bool true)], args := [d1, d2, d3, d4, d5] }
  | _ => none }
def fnSettledDependsOnProportionsAloneRow : OpenClaim := { program := "qxb6613485a", sum := "de7a164291e658d381f7829f33a47248dd731e4e900444eb266626077b262b70", func := "example.com/vie/vie/zzlaws_root_b1.FnSettledDependsOnProportionsAlone", spec := "fnSettledDependsOnProportionsAlone", apart := false }
def FnSettledDependsOnProportionsAloneSaid : Prop := fnSettledDependsOnProportionsAloneRow.holds Try.pinned (OpenSpec.ofChange fnSettledDependsOnProportionsAloneSpec)

/-- ITS FALSE NEIGHBOUR: 'it returns false'. Refute it at one input. -/
def fnSettledDependsOnProportionsAloneWrong : ChangeSpec := { name := "fnSettledDependsOnProportionsAlone", fn := fun _ => fun
  | [d1, d2, d3, d4, d5] => { results := [.lit (.bool false)], args := [d1, d2, d3, d4, d5] }
  | _ => none }
def FnSettledDependsOnProportionsAloneWrongFalsely : Prop := fnSettledDependsOnProportionsAloneRow.holds Try.pinned (OpenSpec.ofChange fnSettledDependsOnProportionsAloneWrong)

end Rows
end Go.Proofs.Qxb6613485a
