/-
  No cell of these rows narrows 'for every input' (looked for: loops, veiled, ifaces, maps, wideKeys, modest, calm, conditions, laid).
  DERIVED. THE GIVEN ROWS OF THIS SEAT. 6 by the template 'for every input the law returns true; each argument reads behind the call as it read before'; 0 by the template 'total and deterministic' (their statements: Qxb6000448aModsTotals.lean).
  GIVEN WITH THE SEED: the statements are not yours to turn. If you find one false, say at which input.
  Laid BY PROGRAM, IN A SANDBOX (cutbox-rows.mjs): the forced cells as the released guide's own fill.sh prints them over the translation 16d7d88c947e5c30… (all of the seat's roots in one cut). By AI agents, Wed Nov 11 2026. No macro, syntax, notation, axiom, sorry.
-/
import Derived.Test.Qxb6000448aModsChecked
import GoSem.Claim
import GoSem.ClaimJoined
import GoSem.ClaimMapViews
import Derived.JoinedTies
import Derived.KernelRfl
namespace Go.Proofs.Qxb6000448aMods
/- THE CELL 'sum', in the pinned program and in every row, IS THE sha256 OF THE DUMP (.gsa) THAT Qxb6000448aModsProg.lean LOADS. Nothing in Lean hashes anything: it is a label: what it is worth is what the hold of that sum in a sandbox is worth. -/
noncomputable def Trym.pinned : Pinned := { name := "qxb6000448amods", sum := "16d7d88c947e5c306d20e07c4279a93df5403cbdda22aa6fdac72b08e5d20dc1", checked := Trym.checked }
namespace Rows
def none {H : Type} : Left H := { results := [], args := [] }

/-- 'zzlaws_root_b1.FnValidRequestIDIsTheCharsetRule': WHATEVER THE INPUT: true; the input reads as it did. -/
def fnValidRequestIDIsTheCharsetRuleSpec : ChangeSpec := { name := "fnValidRequestIDIsTheCharsetRule", fn := fun _ => fun
  | [d] => { results := [.lit (.bool true)], args := [d] }
  | _ => none }
def fnValidRequestIDIsTheCharsetRuleRow : OpenClaim := { program := "qxb6000448amods", sum := "16d7d88c947e5c306d20e07c4279a93df5403cbdda22aa6fdac72b08e5d20dc1", func := "example.com/onceward/onceward/zzlaws_root_b1.FnValidRequestIDIsTheCharsetRule", spec := "fnValidRequestIDIsTheCharsetRule", inPlace := ["internal/bytealg.IndexByteString"], make := .lifted ["publicsums"], apart := false }
def FnValidRequestIDIsTheCharsetRuleSaid : Prop := fnValidRequestIDIsTheCharsetRuleRow.holds Trym.pinned (OpenSpec.ofChange fnValidRequestIDIsTheCharsetRuleSpec)

/-- ITS FALSE NEIGHBOUR: 'it returns false'. Refute it at one input. -/
def fnValidRequestIDIsTheCharsetRuleWrong : ChangeSpec := { name := "fnValidRequestIDIsTheCharsetRule", fn := fun _ => fun
  | [d] => { results := [.lit (.bool false)], args := [d] }
  | _ => none }
def FnValidRequestIDIsTheCharsetRuleWrongFalsely : Prop := fnValidRequestIDIsTheCharsetRuleRow.holds Trym.pinned (OpenSpec.ofChange fnValidRequestIDIsTheCharsetRuleWrong)

/-- 'zzlaws_root_b1.FnConcludedOutcomeIsWellFormed': WHATEVER THE INPUT: true; the input reads as it did. -/
def fnConcludedOutcomeIsWellFormedSpec : ChangeSpec := { name := "fnConcludedOutcomeIsWellFormed", fn := fun _ => fun
  | [d1, d2, d3, d4, d5, d6, d7, d8, d9] => { results := [.lit (.bool true)], args := [d1, d2, d3, d4, d5, d6, d7, d8, d9] }
  | _ => none }
def fnConcludedOutcomeIsWellFormedRow : OpenClaim := { program := "qxb6000448amods", sum := "16d7d88c947e5c306d20e07c4279a93df5403cbdda22aa6fdac72b08e5d20dc1", func := "example.com/onceward/onceward/zzlaws_root_b1.FnConcludedOutcomeIsWellFormed", spec := "fnConcludedOutcomeIsWellFormed", make := .lifted ["publicsums"], apart := false }
def FnConcludedOutcomeIsWellFormedSaid : Prop := fnConcludedOutcomeIsWellFormedRow.holds Trym.pinned (OpenSpec.ofChange fnConcludedOutcomeIsWellFormedSpec)

/-- ITS FALSE NEIGHBOUR: 'it returns false'. Refute it at one input. -/
def fnConcludedOutcomeIsWellFormedWrong : ChangeSpec := { name := "fnConcludedOutcomeIsWellFormed", fn := fun _ => fun
  | [d1, d2, d3, d4, d5, d6, d7, d8, d9] => { results := [.lit (.bool false)], args := [d1, d2, d3, d4, d5, d6, d7, d8, d9] }
  | _ => none }
def FnConcludedOutcomeIsWellFormedWrongFalsely : Prop := fnConcludedOutcomeIsWellFormedRow.holds Trym.pinned (OpenSpec.ofChange fnConcludedOutcomeIsWellFormedWrong)

/-- 'zzlaws_root_b1.FnConcludedIgnoresRollbackAndMarkContents': WHATEVER THE INPUT: true; the input reads as it did. -/
def fnConcludedIgnoresRollbackAndMarkContentsSpec : ChangeSpec := { name := "fnConcludedIgnoresRollbackAndMarkContents", fn := fun _ => fun
  | [d1, d2, d3, d4, d5, d6, d7, d8, d9, d10, d11] => { results := [.lit (.bool true)], args := [d1, d2, d3, d4, d5, d6, d7, d8, d9, d10, d11] }
  | _ => none }
def fnConcludedIgnoresRollbackAndMarkContentsRow : OpenClaim := { program := "qxb6000448amods", sum := "16d7d88c947e5c306d20e07c4279a93df5403cbdda22aa6fdac72b08e5d20dc1", func := "example.com/onceward/onceward/zzlaws_root_b1.FnConcludedIgnoresRollbackAndMarkContents", spec := "fnConcludedIgnoresRollbackAndMarkContents", make := .lifted ["publicsums"], apart := false }
def FnConcludedIgnoresRollbackAndMarkContentsSaid : Prop := fnConcludedIgnoresRollbackAndMarkContentsRow.holds Trym.pinned (OpenSpec.ofChange fnConcludedIgnoresRollbackAndMarkContentsSpec)

/-- ITS FALSE NEIGHBOUR: 'it returns false'. Refute it at one input. -/
def fnConcludedIgnoresRollbackAndMarkContentsWrong : ChangeSpec := { name := "fnConcludedIgnoresRollbackAndMarkContents", fn := fun _ => fun
  | [d1, d2, d3, d4, d5, d6, d7, d8, d9, d10, d11] => { results := [.lit (.bool false)], args := [d1, d2, d3, d4, d5, d6, d7, d8, d9, d10, d11] }
  | _ => none }
def FnConcludedIgnoresRollbackAndMarkContentsWrongFalsely : Prop := fnConcludedIgnoresRollbackAndMarkContentsRow.holds Trym.pinned (OpenSpec.ofChange fnConcludedIgnoresRollbackAndMarkContentsWrong)

/-- 'zzlaws_root_b1.FnConcludedOwnMeansTheCallersInstanceWon': WHATEVER THE INPUT: true; the input reads as it did. -/
def fnConcludedOwnMeansTheCallersInstanceWonSpec : ChangeSpec := { name := "fnConcludedOwnMeansTheCallersInstanceWon", fn := fun _ => fun
  | [d1, d2, d3, d4, d5, d6, d7, d8, d9] => { results := [.lit (.bool true)], args := [d1, d2, d3, d4, d5, d6, d7, d8, d9] }
  | _ => none }
def fnConcludedOwnMeansTheCallersInstanceWonRow : OpenClaim := { program := "qxb6000448amods", sum := "16d7d88c947e5c306d20e07c4279a93df5403cbdda22aa6fdac72b08e5d20dc1", func := "example.com/onceward/onceward/zzlaws_root_b1.FnConcludedOwnMeansTheCallersInstanceWon", spec := "fnConcludedOwnMeansTheCallersInstanceWon", make := .lifted ["publicsums"], apart := false }
def FnConcludedOwnMeansTheCallersInstanceWonSaid : Prop := fnConcludedOwnMeansTheCallersInstanceWonRow.holds Trym.pinned (OpenSpec.ofChange fnConcludedOwnMeansTheCallersInstanceWonSpec)

/-- ITS FALSE NEIGHBOUR: 'it returns false'. Refute it at one input. -/
def fnConcludedOwnMeansTheCallersInstanceWonWrong : ChangeSpec := { name := "fnConcludedOwnMeansTheCallersInstanceWon", fn := fun _ => fun
  | [d1, d2, d3, d4, d5, d6, d7, d8, d9] => { results := [.lit (.bool false)], args := [d1, d2, d3, d4, d5, d6, d7, d8, d9] }
  | _ => none }
def FnConcludedOwnMeansTheCallersInstanceWonWrongFalsely : Prop := fnConcludedOwnMeansTheCallersInstanceWonRow.holds Trym.pinned (OpenSpec.ofChange fnConcludedOwnMeansTheCallersInstanceWonWrong)

/-- 'zzlaws_root_b1.FnAsciiWordMatchesByteModel': WHATEVER THE INPUT: true; the input reads as it did. -/
def fnAsciiWordMatchesByteModelSpec : ChangeSpec := { name := "fnAsciiWordMatchesByteModel", fn := fun _ => fun
  | [d1, d2] => { results := [.lit (.bool true)], args := [d1, d2] }
  | _ => none }
def fnAsciiWordMatchesByteModelRow : OpenClaim := { program := "qxb6000448amods", sum := "16d7d88c947e5c306d20e07c4279a93df5403cbdda22aa6fdac72b08e5d20dc1", func := "example.com/onceward/onceward/zzlaws_root_b1.FnAsciiWordMatchesByteModel", spec := "fnAsciiWordMatchesByteModel", inPlace := ["internal/bytealg.IndexByteString"], make := .lifted ["publicsums"], apart := false }
def FnAsciiWordMatchesByteModelSaid : Prop := fnAsciiWordMatchesByteModelRow.holds Trym.pinned (OpenSpec.ofChange fnAsciiWordMatchesByteModelSpec)

/-- ITS FALSE NEIGHBOUR: 'it returns false'. Refute it at one input. -/
def fnAsciiWordMatchesByteModelWrong : ChangeSpec := { name := "fnAsciiWordMatchesByteModel", fn := fun _ => fun
  | [d1, d2] => { results := [.lit (.bool false)], args := [d1, d2] }
  | _ => none }
def FnAsciiWordMatchesByteModelWrongFalsely : Prop := fnAsciiWordMatchesByteModelRow.holds Trym.pinned (OpenSpec.ofChange fnAsciiWordMatchesByteModelWrong)

/-- 'zzlaws_root_b1.FnAsciiWordSplitsAtAnyPoint': WHATEVER THE INPUT: true; the input reads as it did. -/
def fnAsciiWordSplitsAtAnyPointSpec : ChangeSpec := { name := "fnAsciiWordSplitsAtAnyPoint", fn := fun _ => fun
  | [d1, d2, d3] => { results := [.lit (.bool true)], args := [d1, d2, d3] }
  | _ => none }
def fnAsciiWordSplitsAtAnyPointRow : OpenClaim := { program := "qxb6000448amods", sum := "16d7d88c947e5c306d20e07c4279a93df5403cbdda22aa6fdac72b08e5d20dc1", func := "example.com/onceward/onceward/zzlaws_root_b1.FnAsciiWordSplitsAtAnyPoint", spec := "fnAsciiWordSplitsAtAnyPoint", inPlace := ["internal/bytealg.IndexByteString"], make := .lifted ["publicsums"], apart := false }
def FnAsciiWordSplitsAtAnyPointSaid : Prop := fnAsciiWordSplitsAtAnyPointRow.holds Trym.pinned (OpenSpec.ofChange fnAsciiWordSplitsAtAnyPointSpec)

/-- ITS FALSE NEIGHBOUR: 'it returns false'. Refute it at one input. -/
def fnAsciiWordSplitsAtAnyPointWrong : ChangeSpec := { name := "fnAsciiWordSplitsAtAnyPoint", fn := fun _ => fun
  | [d1, d2, d3] => { results := [.lit (.bool false)], args := [d1, d2, d3] }
  | _ => none }
def FnAsciiWordSplitsAtAnyPointWrongFalsely : Prop := fnAsciiWordSplitsAtAnyPointRow.holds Trym.pinned (OpenSpec.ofChange fnAsciiWordSplitsAtAnyPointWrong)

end Rows
end Go.Proofs.Qxb6000448aMods
