/-
  No cell of these rows narrows 'for every input' (looked for: loops, veiled, ifaces, maps, wideKeys, modest, calm, conditions, laid).
  DERIVED. THE GIVEN ROWS OF THIS SEAT. 4 by the template 'for every input the law returns true; each argument reads behind the call as it read before'; 0 by the template 'total and deterministic' (their statements: Qxb6604092aTotals.lean).
  GIVEN WITH THE SEED: the statements are not yours to turn. If you find one false, say at which input.
  Laid BY PROGRAM, IN A SANDBOX (cutbox-rows.mjs): the forced cells as the released guide's own fill.sh prints them over the translation 4b77758178cd86b2… (all of the seat's roots in one cut). By AI agents, Wed Nov 11 2026. No macro, syntax, notation, axiom, sorry.
-/
import Derived.Test.Qxb6604092aChecked
import GoSem.Claim
import GoSem.ClaimJoined
import GoSem.ClaimMapViews
import Derived.JoinedTies
import Derived.KernelRfl
namespace Go.Proofs.Qxb6604092a
/- THE CELL 'sum', in the pinned program and in every row, IS THE sha256 OF THE DUMP (.gsa) THAT Qxb6604092aProg.lean LOADS. Nothing in Lean hashes anything: it is a label: what it is worth is what the hold of that sum in a sandbox is worth. -/
noncomputable def Try.pinned : Pinned := { name := "qxb6604092a", sum := "4b77758178cd86b2fc65f1a271a04bfc73da0a0670db04ef0fe6e14930de9b8a", checked := Try.checked }
namespace Rows
def none {H : Type} : Left H := { results := [], args := [] }

/-- 'zzlaws_internal_sim_b1.FnHoldAgainstFirstHolder': WHATEVER THE INPUT: true; the input reads as it did. -/
def fnHoldAgainstFirstHolderSpec : ChangeSpec := { name := "fnHoldAgainstFirstHolder", fn := fun _ => fun
  | [d] => { results := [.lit (.bool true)], args := [d] }
  | _ => none }
def fnHoldAgainstFirstHolderRow : OpenClaim := { program := "qxb6604092a", sum := "4b77758178cd86b2fc65f1a271a04bfc73da0a0670db04ef0fe6e14930de9b8a", func := "example.com/hustings/hustings/zzlaws_internal_sim_b1.FnHoldAgainstFirstHolder", spec := "fnHoldAgainstFirstHolder", plainKeys := false, apart := false }
def FnHoldAgainstFirstHolderSaid : Prop := fnHoldAgainstFirstHolderRow.holds Try.pinned (OpenSpec.ofChange fnHoldAgainstFirstHolderSpec)

/-- ITS FALSE NEIGHBOUR: 'it returns false'. Refute it at one input. -/
def fnHoldAgainstFirstHolderWrong : ChangeSpec := { name := "fnHoldAgainstFirstHolder", fn := fun _ => fun
  | [d] => { results := [.lit (.bool false)], args := [d] }
  | _ => none }
def FnHoldAgainstFirstHolderWrongFalsely : Prop := fnHoldAgainstFirstHolderRow.holds Try.pinned (OpenSpec.ofChange fnHoldAgainstFirstHolderWrong)

/-- 'zzlaws_internal_sim_b1.FnHoldAllTrueIffLogsMatch': WHATEVER THE INPUT: true; the input reads as it did. -/
def fnHoldAllTrueIffLogsMatchSpec : ChangeSpec := { name := "fnHoldAllTrueIffLogsMatch", fn := fun _ => fun
  | [d] => { results := [.lit (.bool true)], args := [d] }
  | _ => none }
def fnHoldAllTrueIffLogsMatchRow : OpenClaim := { program := "qxb6604092a", sum := "4b77758178cd86b2fc65f1a271a04bfc73da0a0670db04ef0fe6e14930de9b8a", func := "example.com/hustings/hustings/zzlaws_internal_sim_b1.FnHoldAllTrueIffLogsMatch", spec := "fnHoldAllTrueIffLogsMatch", plainKeys := false, apart := false }
def FnHoldAllTrueIffLogsMatchSaid : Prop := fnHoldAllTrueIffLogsMatchRow.holds Try.pinned (OpenSpec.ofChange fnHoldAllTrueIffLogsMatchSpec)

/-- ITS FALSE NEIGHBOUR: 'it returns false'. Refute it at one input. -/
def fnHoldAllTrueIffLogsMatchWrong : ChangeSpec := { name := "fnHoldAllTrueIffLogsMatch", fn := fun _ => fun
  | [d] => { results := [.lit (.bool false)], args := [d] }
  | _ => none }
def FnHoldAllTrueIffLogsMatchWrongFalsely : Prop := fnHoldAllTrueIffLogsMatchRow.holds Try.pinned (OpenSpec.ofChange fnHoldAllTrueIffLogsMatchWrong)

/-- 'zzlaws_internal_sim_b1.FnCommitAgainstHistory': WHATEVER THE INPUT: true; the input reads as it did. -/
def fnCommitAgainstHistorySpec : ChangeSpec := { name := "fnCommitAgainstHistory", fn := fun _ => fun
  | [d1, d2] => { results := [.lit (.bool true)], args := [d1, d2] }
  | _ => none }
def fnCommitAgainstHistoryRow : OpenClaim := { program := "qxb6604092a", sum := "4b77758178cd86b2fc65f1a271a04bfc73da0a0670db04ef0fe6e14930de9b8a", func := "example.com/hustings/hustings/zzlaws_internal_sim_b1.FnCommitAgainstHistory", spec := "fnCommitAgainstHistory", plainKeys := false, apart := false }
def FnCommitAgainstHistorySaid : Prop := fnCommitAgainstHistoryRow.holds Try.pinned (OpenSpec.ofChange fnCommitAgainstHistorySpec)

/-- ITS FALSE NEIGHBOUR: 'it returns false'. Refute it at one input. -/
def fnCommitAgainstHistoryWrong : ChangeSpec := { name := "fnCommitAgainstHistory", fn := fun _ => fun
  | [d1, d2] => { results := [.lit (.bool false)], args := [d1, d2] }
  | _ => none }
def FnCommitAgainstHistoryWrongFalsely : Prop := fnCommitAgainstHistoryRow.holds Try.pinned (OpenSpec.ofChange fnCommitAgainstHistoryWrong)

/-- 'zzlaws_internal_sim_b1.FnCommitRepeatChangesNothing': WHATEVER THE INPUT: true; the input reads as it did. -/
def fnCommitRepeatChangesNothingSpec : ChangeSpec := { name := "fnCommitRepeatChangesNothing", fn := fun _ => fun
  | [d1, d2] => { results := [.lit (.bool true)], args := [d1, d2] }
  | _ => none }
def fnCommitRepeatChangesNothingRow : OpenClaim := { program := "qxb6604092a", sum := "4b77758178cd86b2fc65f1a271a04bfc73da0a0670db04ef0fe6e14930de9b8a", func := "example.com/hustings/hustings/zzlaws_internal_sim_b1.FnCommitRepeatChangesNothing", spec := "fnCommitRepeatChangesNothing", plainKeys := false, apart := false }
def FnCommitRepeatChangesNothingSaid : Prop := fnCommitRepeatChangesNothingRow.holds Try.pinned (OpenSpec.ofChange fnCommitRepeatChangesNothingSpec)

/-- ITS FALSE NEIGHBOUR: 'it returns false'. Refute it at one input. -/
def fnCommitRepeatChangesNothingWrong : ChangeSpec := { name := "fnCommitRepeatChangesNothing", fn := fun _ => fun
  | [d1, d2] => { results := [.lit (.bool false)], args := [d1, d2] }
  | _ => none }
def FnCommitRepeatChangesNothingWrongFalsely : Prop := fnCommitRepeatChangesNothingRow.holds Try.pinned (OpenSpec.ofChange fnCommitRepeatChangesNothingWrong)

end Rows
end Go.Proofs.Qxb6604092a
