/-
  No cell of these rows narrows 'for every input' (looked for: loops, veiled, ifaces, maps, wideKeys, modest, calm, conditions, laid).
  DERIVED. THE GIVEN ROWS OF THIS SEAT. 2 by the template 'for every input the law returns true; each argument reads behind the call as it read before'; 0 by the template 'total and deterministic' (their statements: Qxb6612698aModsTotals.lean).
  GIVEN WITH THE SEED: the statements are not yours to turn. If you find one false, say at which input.
  Laid BY PROGRAM, IN A SANDBOX (cutbox-rows.mjs): the forced cells as the released guide's own fill.sh prints them over the translation 904346d5186b9181… (all of the seat's roots in one cut). By AI agents, Wed Nov 11 2026. No macro, syntax, notation, axiom, sorry.
-/
import Derived.Test.Qxb6612698aModsChecked
import GoSem.Claim
import GoSem.ClaimJoined
import GoSem.ClaimMapViews
import Derived.JoinedTies
import Derived.KernelRfl
namespace Go.Proofs.Qxb6612698aMods
/- THE CELL 'sum', in the pinned program and in every row, IS THE sha256 OF THE DUMP (.gsa) THAT Qxb6612698aModsProg.lean LOADS. Nothing in Lean hashes anything: it is a label: what it is worth is what the hold of that sum in a sandbox is worth. -/
noncomputable def Trym.pinned : Pinned := { name := "qxb6612698amods", sum := "904346d5186b9181838280d7be8fa344f3865e712bc50f051db5a94580bde089", checked := Trym.checked }
namespace Rows
def none {H : Type} : Left H := { results := [], args := [] }

/-- 'zzlaws_table_b1.FnBmpHasToggleOneBit': WHATEVER THE INPUT: true; the input reads as it did. -/
def fnBmpHasToggleOneBitSpec : ChangeSpec := { name := "fnBmpHasToggleOneBit", fn := fun _ => fun
  | [d1, d2, d3] => { results := [.lit (.bool true)], args := [d1, d2, d3] }
  | _ => none }
def fnBmpHasToggleOneBitRow : OpenClaim := { program := "qxb6612698amods", sum := "904346d5186b9181838280d7be8fa344f3865e712bc50f051db5a94580bde089", func := "example.com/tuoguan/tuoguan/zzlaws_table_b1.FnBmpHasToggleOneBit", spec := "fnBmpHasToggleOneBit", make := .lifted ["publicsums"], apart := false }
def FnBmpHasToggleOneBitSaid : Prop := fnBmpHasToggleOneBitRow.holds Trym.pinned (OpenSpec.ofChange fnBmpHasToggleOneBitSpec)

/-- ITS FALSE NEIGHBOUR: 'it returns false'. Refute it at one input. -/
def fnBmpHasToggleOneBitWrong : ChangeSpec := { name := "fnBmpHasToggleOneBit", fn := fun _ => fun
  | [d1, d2, d3] => { results := [.lit (.bool false)], args := [d1, d2, d3] }
  | _ => none }
def FnBmpHasToggleOneBitWrongFalsely : Prop := fnBmpHasToggleOneBitRow.holds Trym.pinned (OpenSpec.ofChange fnBmpHasToggleOneBitWrong)

/-- 'zzlaws_table_b1.FnBmpHasComplementAndUnion': WHATEVER THE INPUT: true; the input reads as it did. -/
def fnBmpHasComplementAndUnionSpec : ChangeSpec := { name := "fnBmpHasComplementAndUnion", fn := fun _ => fun
  | [d1, d2, d3] => { results := [.lit (.bool true)], args := [d1, d2, d3] }
  | _ => none }
def fnBmpHasComplementAndUnionRow : OpenClaim := { program := "qxb6612698amods", sum := "904346d5186b9181838280d7be8fa344f3865e712bc50f051db5a94580bde089", func := "example.com/tuoguan/tuoguan/zzlaws_table_b1.FnBmpHasComplementAndUnion", spec := "fnBmpHasComplementAndUnion", make := .lifted ["publicsums"], apart := false }
def FnBmpHasComplementAndUnionSaid : Prop := fnBmpHasComplementAndUnionRow.holds Trym.pinned (OpenSpec.ofChange fnBmpHasComplementAndUnionSpec)

/-- ITS FALSE NEIGHBOUR: 'it returns false'. Refute it at one input. -/
def fnBmpHasComplementAndUnionWrong : ChangeSpec := { name := "fnBmpHasComplementAndUnion", fn := fun _ => fun
  | [d1, d2, d3] => { results := [.lit (.bool false)], args := [d1, d2, d3] }
  | _ => none }
def FnBmpHasComplementAndUnionWrongFalsely : Prop := fnBmpHasComplementAndUnionRow.holds Trym.pinned (OpenSpec.ofChange fnBmpHasComplementAndUnionWrong)

end Rows
end Go.Proofs.Qxb6612698aMods
