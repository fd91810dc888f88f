/-
  NARROWER THAN 'FOR EVERY INPUT', by the rows' own cells (each row's printed sentence says how): FnGroupVotesIsSumOverItsSites: maps · FnGroupVotesSettingOneSiteShiftsTheTotal: maps.
  DERIVED. THE GIVEN ROWS OF THIS SEAT. 3 by the template 'for every input the law returns true; each argument reads behind the call as it read before'; 0 by the template 'total and deterministic' (their statements: Qxb6603990aModsTotals.lean).
  GIVEN WITH THE SEED: the statements are not yours to turn. If you find one false, say at which input.
  Laid BY PROGRAM, IN A SANDBOX (cutbox-rows.mjs): the forced cells as the released guide's own fill.sh prints them over the translation 328c97df93d2bb09… (all of the seat's roots in one cut). By AI agents, Wed Nov 11 2026. No macro, syntax, notation, axiom, sorry.
-/
import Derived.Test.Qxb6603990aModsChecked
import GoSem.Claim
import GoSem.ClaimJoined
import GoSem.ClaimMapViews
import Derived.JoinedTies
import Derived.KernelRfl
namespace Go.Proofs.Qxb6603990aMods
/- THE CELL 'sum', in the pinned program and in every row, IS THE sha256 OF THE DUMP (.gsa) THAT Qxb6603990aModsProg.lean LOADS. Nothing in Lean hashes anything: it is a label: what it is worth is what the hold of that sum in a sandbox is worth. -/
noncomputable def Trym.pinned : Pinned := { name := "qxb6603990amods", sum := "328c97df93d2bb096904c6cbf25f76b5f44cf86d530eceb3e54d2103a587d412", checked := Trym.checked }
namespace Rows
def none {H : Type} : Left H := { results := [], args := [] }

/-- 'zzlaws_site_b1.FnGroupVotesIsSumOverItsSites': WHATEVER THE INPUT: true; the input reads as it did. -/
def fnGroupVotesIsSumOverItsSitesSpec : ChangeSpec := { name := "fnGroupVotesIsSumOverItsSites", fn := fun _ => fun
  | [d1, d2, d3, d4, d5] => { results := [.lit (.bool true)], args := [d1, d2, d3, d4, d5] }
  | _ => none }
def fnGroupVotesIsSumOverItsSitesRow : OpenClaim := { program := "qxb6603990amods", sum := "328c97df93d2bb096904c6cbf25f76b5f44cf86d530eceb3e54d2103a587d412", func := "example.com/quorant/quorant/zzlaws_site_b1.FnGroupVotesIsSumOverItsSites", spec := "fnGroupVotesIsSumOverItsSites", maps := true, make := .lifted ["publicsums"], apart := false }
def FnGroupVotesIsSumOverItsSitesSaid : Prop := fnGroupVotesIsSumOverItsSitesRow.holds Trym.pinned (OpenSpec.ofChange fnGroupVotesIsSumOverItsSitesSpec)

/-- ITS FALSE NEIGHBOUR: 'it returns false'. Refute it at one input. -/
def fnGroupVotesIsSumOverItsSitesWrong : ChangeSpec := { name := "fnGroupVotesIsSumOverItsSites", fn := fun _ => fun
  | [d1, d2, d3, d4, d5] => { results := [.lit (.bool false)], args := [d1, d2, d3, d4, d5] }
  | _ => none }
def FnGroupVotesIsSumOverItsSitesWrongFalsely : Prop := fnGroupVotesIsSumOverItsSitesRow.holds Trym.pinned (OpenSpec.ofChange fnGroupVotesIsSumOverItsSitesWrong)

/-- 'zzlaws_site_b1.FnGroupVotesSettingOneSiteShiftsTheTotal': WHATEVER THE INPUT: true; the input reads as it did. -/
def fnGroupVotesSettingOneSiteShiftsTheTotalSpec : ChangeSpec := { name := "fnGroupVotesSettingOneSiteShiftsTheTotal", fn := fun _ => fun
  | [d1, d2, d3, d4] => { results := [.lit (.bool true)], args := [d1, d2, d3, d4] }
  | _ => none }
def fnGroupVotesSettingOneSiteShiftsTheTotalRow : OpenClaim := { program := "qxb6603990amods", sum := "328c97df93d2bb096904c6cbf25f76b5f44cf86d530eceb3e54d2103a587d412", func := "example.com/quorant/quorant/zzlaws_site_b1.FnGroupVotesSettingOneSiteShiftsTheTotal", spec := "fnGroupVotesSettingOneSiteShiftsTheTotal", maps := true, make := .lifted ["publicsums"], apart := false }
def FnGroupVotesSettingOneSiteShiftsTheTotalSaid : Prop := fnGroupVotesSettingOneSiteShiftsTheTotalRow.holds Trym.pinned (OpenSpec.ofChange fnGroupVotesSettingOneSiteShiftsTheTotalSpec)

/-- ITS FALSE NEIGHBOUR: 'it returns false'. Refute it at one input. -/
def fnGroupVotesSettingOneSiteShiftsTheTotalWrong : ChangeSpec := { name := "fnGroupVotesSettingOneSiteShiftsTheTotal", fn := fun _ => fun
  | [d1, d2, d3, d4] => { results := [.lit (.bool false)], args := [d1, d2, d3, d4] }
  | _ => none }
def FnGroupVotesSettingOneSiteShiftsTheTotalWrongFalsely : Prop := fnGroupVotesSettingOneSiteShiftsTheTotalRow.holds Trym.pinned (OpenSpec.ofChange fnGroupVotesSettingOneSiteShiftsTheTotalWrong)

/-- 'zzlaws_site_b1.FnEndingsAddRemembersEveryEndingBelowItsBound': WHATEVER THE INPUT: true; the input reads as it did. -/
def fnEndingsAddRemembersEveryEndingBelowItsBoundSpec : ChangeSpec := { name := "fnEndingsAddRemembersEveryEndingBelowItsBound", fn := fun _ => fun
  | [d] => { results := [.lit (.bool true)], args := [d] }
  | _ => none }
def fnEndingsAddRemembersEveryEndingBelowItsBoundRow : OpenClaim := { program := "qxb6603990amods", sum := "328c97df93d2bb096904c6cbf25f76b5f44cf86d530eceb3e54d2103a587d412", func := "example.com/quorant/quorant/zzlaws_site_b1.FnEndingsAddRemembersEveryEndingBelowItsBound", spec := "fnEndingsAddRemembersEveryEndingBelowItsBound", make := .lifted ["publicsums"], apart := false }
def FnEndingsAddRemembersEveryEndingBelowItsBoundSaid : Prop := fnEndingsAddRemembersEveryEndingBelowItsBoundRow.holds Trym.pinned (OpenSpec.ofChange fnEndingsAddRemembersEveryEndingBelowItsBoundSpec)

/-- ITS FALSE NEIGHBOUR: 'it returns false'. Refute it at one input. -/
def fnEndingsAddRemembersEveryEndingBelowItsBoundWrong : ChangeSpec := { name := "fnEndingsAddRemembersEveryEndingBelowItsBound", fn := fun _ => fun
  | [d] => { results := [.lit (.bool false)], args := [d] }
  | _ => none }
def FnEndingsAddRemembersEveryEndingBelowItsBoundWrongFalsely : Prop := fnEndingsAddRemembersEveryEndingBelowItsBoundRow.holds Trym.pinned (OpenSpec.ofChange fnEndingsAddRemembersEveryEndingBelowItsBoundWrong)

end Rows
end Go.Proofs.Qxb6603990aMods
