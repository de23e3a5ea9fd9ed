/-
  No cell of these rows narrows 'for every input' (looked for: loops, veiled, ifaces, maps, wideKeys, modest, calm, conditions, laid).
  DERIVED. THE GIVEN ROWS OF THIS SEAT. 2 by the template 'for every input the law returns true; each argument reads behind the call as it read before'; 0 by the template 'total and deterministic' (their statements: Qxb6617918aModsTotals.lean).
  GIVEN WITH THE SEED: the statements are not yours to turn. If you find one false, say at which input.
  Laid BY PROGRAM, IN A SANDBOX (cutbox-rows.mjs): the forced cells as the released guide's own fill.sh prints them over the translation 31070dc41c4a3eed… (all of the seat's roots in one cut). By AI agents, Wed Nov 11 2026. No macro, syntax, notation, axiom, sorry.
-/
import Derived.Test.Qxb6617918aModsChecked
import GoSem.Claim
import GoSem.ClaimJoined
import GoSem.ClaimMapViews
import Derived.JoinedTies
import Derived.KernelRfl
namespace Go.Proofs.Qxb6617918aMods
/- THE CELL 'sum', in the pinned program and in every row, IS THE sha256 OF THE DUMP (.gsa) THAT Qxb6617918aModsProg.lean LOADS. Nothing in Lean hashes anything: it is a label: what it is worth is what the hold of that sum in a sandbox is worth. -/
noncomputable def Trym.pinned : Pinned := { name := "qxb6617918amods", sum := "31070dc41c4a3eedeb3e8a06d2fced61fb754430719ef6187232c0b04279eeca", checked := Trym.checked }
namespace Rows
def none {H : Type} : Left H := { results := [], args := [] }

/-- 'zzlaws_pkg_job_b1.FnOutcomeExpiryOnlyDecidesOpenJobs': WHATEVER THE INPUT: true; the input reads as it did. -/
def fnOutcomeExpiryOnlyDecidesOpenJobsSpec : ChangeSpec := { name := "fnOutcomeExpiryOnlyDecidesOpenJobs", fn := fun _ => fun
  | [d1, d2, d3] => { results := [.lit (.bool true)], args := [d1, d2, d3] }
  | _ => none }
def fnOutcomeExpiryOnlyDecidesOpenJobsRow : OpenClaim := { program := "qxb6617918amods", sum := "31070dc41c4a3eedeb3e8a06d2fced61fb754430719ef6187232c0b04279eeca", func := "example.com/events-into-jobs/events-into-jobs/zzlaws_pkg_job_b1.FnOutcomeExpiryOnlyDecidesOpenJobs", spec := "fnOutcomeExpiryOnlyDecidesOpenJobs", make := .lifted ["publicsums"], apart := false }
def FnOutcomeExpiryOnlyDecidesOpenJobsSaid : Prop := fnOutcomeExpiryOnlyDecidesOpenJobsRow.holds Trym.pinned (OpenSpec.ofChange fnOutcomeExpiryOnlyDecidesOpenJobsSpec)

/-- ITS FALSE NEIGHBOUR: 'it returns false'. Refute it at one input. -/
def fnOutcomeExpiryOnlyDecidesOpenJobsWrong : ChangeSpec := { name := "fnOutcomeExpiryOnlyDecidesOpenJobs", fn := fun _ => fun
  | [d1, d2, d3] => { results := [.lit (.bool false)], args := [d1, d2, d3] }
  | _ => none }
def FnOutcomeExpiryOnlyDecidesOpenJobsWrongFalsely : Prop := fnOutcomeExpiryOnlyDecidesOpenJobsRow.holds Trym.pinned (OpenSpec.ofChange fnOutcomeExpiryOnlyDecidesOpenJobsWrong)

/-- 'zzlaws_pkg_job_b1.FnOutcomeSuccessCountsOnlyWhenAllReturned': WHATEVER THE INPUT: true; the input reads as it did. -/
def fnOutcomeSuccessCountsOnlyWhenAllReturnedSpec : ChangeSpec := { name := "fnOutcomeSuccessCountsOnlyWhenAllReturned", fn := fun _ => fun
  | [d1, d2, d3, d4, d5] => { results := [.lit (.bool true)], args := [d1, d2, d3, d4, d5] }
  | _ => none }
def fnOutcomeSuccessCountsOnlyWhenAllReturnedRow : OpenClaim := { program := "qxb6617918amods", sum := "31070dc41c4a3eedeb3e8a06d2fced61fb754430719ef6187232c0b04279eeca", func := "example.com/events-into-jobs/events-into-jobs/zzlaws_pkg_job_b1.FnOutcomeSuccessCountsOnlyWhenAllReturned", spec := "fnOutcomeSuccessCountsOnlyWhenAllReturned", make := .lifted ["publicsums"], apart := false }
def FnOutcomeSuccessCountsOnlyWhenAllReturnedSaid : Prop := fnOutcomeSuccessCountsOnlyWhenAllReturnedRow.holds Trym.pinned (OpenSpec.ofChange fnOutcomeSuccessCountsOnlyWhenAllReturnedSpec)

/-- ITS FALSE NEIGHBOUR: 'it returns false'. Refute it at one input. -/
def fnOutcomeSuccessCountsOnlyWhenAllReturnedWrong : ChangeSpec := { name := "fnOutcomeSuccessCountsOnlyWhenAllReturned", fn := fun _ => fun
  | [d1, d2, d3, d4, d5] => { results := [.lit (.bool false)], args := [d1, d2, d3, d4, d5] }
  | _ => none }
def FnOutcomeSuccessCountsOnlyWhenAllReturnedWrongFalsely : Prop := fnOutcomeSuccessCountsOnlyWhenAllReturnedRow.holds Trym.pinned (OpenSpec.ofChange fnOutcomeSuccessCountsOnlyWhenAllReturnedWrong)

end Rows
end Go.Proofs.Qxb6617918aMods
