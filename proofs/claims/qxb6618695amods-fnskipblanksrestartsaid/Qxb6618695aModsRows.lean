/-
  No cell of these rows narrows 'for every input' (looked for: loops, veiled, ifaces, maps, wideKeys, modest, calm, conditions, laid).
  DERIVED. THE GIVEN ROWS OF THIS SEAT. 4 by the template 'for every input the law returns true; each argument reads behind the call as it read before'; 0 by the template 'total and deterministic' (their statements: Qxb6618695aModsTotals.lean).
  GIVEN WITH THE SEED: the statements are not yours to turn. If you find one false, say at which input.
  Laid BY PROGRAM, IN A SANDBOX (cutbox-rows.mjs): the forced cells as the released guide's own fill.sh prints them over the translation e0a68c04ebd92c90… (all of the seat's roots in one cut). By AI agents, Wed Nov 11 2026. No macro, syntax, notation, axiom, sorry.
-/
import Derived.Test.Qxb6618695aModsChecked
import GoSem.Claim
import GoSem.ClaimJoined
import GoSem.ClaimMapViews
import Derived.JoinedTies
import Derived.KernelRfl
namespace Go.Proofs.Qxb6618695aMods
/- THE CELL 'sum', in the pinned program and in every row, IS THE sha256 OF THE DUMP (.gsa) THAT Qxb6618695aModsProg.lean LOADS. Nothing in Lean hashes anything: it is a label: what it is worth is what the hold of that sum in a sandbox is worth. -/
noncomputable def Trym.pinned : Pinned := { name := "qxb6618695amods", sum := "e0a68c04ebd92c904685cd3440e41ee77b4dad07ea9260e499215fccfb103c1c", checked := Trym.checked }
namespace Rows
def none {H : Type} : Left H := { results := [], args := [] }

/-- 'zzlaws_bash_b1.FnSkipBlanksPrefixCut': WHATEVER THE INPUT: true; the input reads as it did. -/
def fnSkipBlanksPrefixCutSpec : ChangeSpec := { name := "fnSkipBlanksPrefixCut", fn := fun _ => fun
  | [d1, d2, d3] => { results := [.lit (.bool true)], args := [d1, d2, d3] }
  | _ => none }
def fnSkipBlanksPrefixCutRow : OpenClaim := { program := "qxb6618695amods", sum := "e0a68c04ebd92c904685cd3440e41ee77b4dad07ea9260e499215fccfb103c1c", func := "example.com/intentline/intentline/zzlaws_bash_b1.FnSkipBlanksPrefixCut", spec := "fnSkipBlanksPrefixCut", make := .lifted ["publicsums"], apart := false }
def FnSkipBlanksPrefixCutSaid : Prop := fnSkipBlanksPrefixCutRow.holds Trym.pinned (OpenSpec.ofChange fnSkipBlanksPrefixCutSpec)

/-- ITS FALSE NEIGHBOUR: 'it returns false'. Refute it at one input. -/
def fnSkipBlanksPrefixCutWrong : ChangeSpec := { name := "fnSkipBlanksPrefixCut", fn := fun _ => fun
  | [d1, d2, d3] => { results := [.lit (.bool false)], args := [d1, d2, d3] }
  | _ => none }
def FnSkipBlanksPrefixCutWrongFalsely : Prop := fnSkipBlanksPrefixCutRow.holds Trym.pinned (OpenSpec.ofChange fnSkipBlanksPrefixCutWrong)

/-- 'zzlaws_bash_b1.FnSkipBlanksRestart': WHATEVER THE INPUT: true; the input reads as it did. -/
def fnSkipBlanksRestartSpec : ChangeSpec := { name := "fnSkipBlanksRestart", fn := fun _ => fun
  | [d1, d2, d3] => { results := [.lit (.bool true)], args := [d1, d2, d3] }
  | _ => none }
def fnSkipBlanksRestartRow : OpenClaim := { program := "qxb6618695amods", sum := "e0a68c04ebd92c904685cd3440e41ee77b4dad07ea9260e499215fccfb103c1c", func := "example.com/intentline/intentline/zzlaws_bash_b1.FnSkipBlanksRestart", spec := "fnSkipBlanksRestart", make := .lifted ["publicsums"], apart := false }
def FnSkipBlanksRestartSaid : Prop := fnSkipBlanksRestartRow.holds Trym.pinned (OpenSpec.ofChange fnSkipBlanksRestartSpec)

/-- ITS FALSE NEIGHBOUR: 'it returns false'. Refute it at one input. -/
def fnSkipBlanksRestartWrong : ChangeSpec := { name := "fnSkipBlanksRestart", fn := fun _ => fun
  | [d1, d2, d3] => { results := [.lit (.bool false)], args := [d1, d2, d3] }
  | _ => none }
def FnSkipBlanksRestartWrongFalsely : Prop := fnSkipBlanksRestartRow.holds Trym.pinned (OpenSpec.ofChange fnSkipBlanksRestartWrong)

/-- 'zzlaws_bash_b1.FnIsPlainJoin': WHATEVER THE INPUT: true; the input reads as it did. -/
def fnIsPlainJoinSpec : ChangeSpec := { name := "fnIsPlainJoin", fn := fun _ => fun
  | [d1, d2] => { results := [.lit (.bool true)], args := [d1, d2] }
  | _ => none }
def fnIsPlainJoinRow : OpenClaim := { program := "qxb6618695amods", sum := "e0a68c04ebd92c904685cd3440e41ee77b4dad07ea9260e499215fccfb103c1c", func := "example.com/intentline/intentline/zzlaws_bash_b1.FnIsPlainJoin", spec := "fnIsPlainJoin", inPlace := ["internal/bytealg.IndexByteString", "internal/bytealg.IndexString"], named := ["internal/bytealg.MaxLen"], make := .lifted ["publicsums"], apart := false }
def FnIsPlainJoinSaid : Prop := fnIsPlainJoinRow.holds Trym.pinned (OpenSpec.ofChange fnIsPlainJoinSpec)

/-- ITS FALSE NEIGHBOUR: 'it returns false'. Refute it at one input. -/
def fnIsPlainJoinWrong : ChangeSpec := { name := "fnIsPlainJoin", fn := fun _ => fun
  | [d1, d2] => { results := [.lit (.bool false)], args := [d1, d2] }
  | _ => none }
def FnIsPlainJoinWrongFalsely : Prop := fnIsPlainJoinRow.holds Trym.pinned (OpenSpec.ofChange fnIsPlainJoinWrong)

/-- 'zzlaws_bash_b1.FnIsPlainInsert': WHATEVER THE INPUT: true; the input reads as it did. -/
def fnIsPlainInsertSpec : ChangeSpec := { name := "fnIsPlainInsert", fn := fun _ => fun
  | [d1, d2, d3] => { results := [.lit (.bool true)], args := [d1, d2, d3] }
  | _ => none }
def fnIsPlainInsertRow : OpenClaim := { program := "qxb6618695amods", sum := "e0a68c04ebd92c904685cd3440e41ee77b4dad07ea9260e499215fccfb103c1c", func := "example.com/intentline/intentline/zzlaws_bash_b1.FnIsPlainInsert", spec := "fnIsPlainInsert", inPlace := ["internal/bytealg.IndexByteString", "internal/bytealg.IndexString"], named := ["internal/bytealg.MaxLen"], make := .lifted ["publicsums"], apart := false }
def FnIsPlainInsertSaid : Prop := fnIsPlainInsertRow.holds Trym.pinned (OpenSpec.ofChange fnIsPlainInsertSpec)

/-- ITS FALSE NEIGHBOUR: 'it returns false'. Refute it at one input. -/
def fnIsPlainInsertWrong : ChangeSpec := { name := "fnIsPlainInsert", fn := fun _ => fun
  | [d1, d2, d3] => { results := [.lit (.bool false)], args := [d1, d2, d3] }
  | _ => none }
def FnIsPlainInsertWrongFalsely : Prop := fnIsPlainInsertRow.holds Trym.pinned (OpenSpec.ofChange fnIsPlainInsertWrong)

end Rows
end Go.Proofs.Qxb6618695aMods
