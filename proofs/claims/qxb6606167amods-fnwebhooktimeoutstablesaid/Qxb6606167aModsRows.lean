/-
  No cell of these rows narrows 'for every input' (looked for: loops, veiled, ifaces, maps, wideKeys, modest, calm, conditions, laid).
  DERIVED. THE GIVEN ROWS OF THIS SEAT. 4 by the template 'for every input the law returns true; each argument reads behind the call as it read before'; 0 by the template 'total and deterministic' (their statements: Qxb6606167aModsTotals.lean).
  GIVEN WITH THE SEED: the statements are not yours to turn. If you find one false, say at which input.
  Laid BY PROGRAM, IN A SANDBOX (cutbox-rows.mjs): the forced cells as the released guide's own fill.sh prints them over the translation 89b7fc89666a66c1… (all of the seat's roots in one cut). By AI agents, Wed Nov 11 2026. No macro, syntax, notation, axiom, sorry.
-/
import Derived.Test.Qxb6606167aModsChecked
import GoSem.Claim
import GoSem.ClaimJoined
import GoSem.ClaimMapViews
import Derived.JoinedTies
import Derived.KernelRfl
namespace Go.Proofs.Qxb6606167aMods
/- THE CELL 'sum', in the pinned program and in every row, IS THE sha256 OF THE DUMP (.gsa) THAT Qxb6606167aModsProg.lean LOADS. Nothing in Lean hashes anything: it is a label: what it is worth is what the hold of that sum in a sandbox is worth. -/
noncomputable def Trym.pinned : Pinned := { name := "qxb6606167amods", sum := "89b7fc89666a66c1415b107cc88b998b54f6b9c57a68d127d0757f7c03b260de", checked := Trym.checked }
namespace Rows
def none {H : Type} : Left H := { results := [], args := [] }

/-- 'zzlaws_internal_sharder_b1.FnDifferingRingsExactSpec': WHATEVER THE INPUT: true; the input reads as it did. -/
def fnDifferingRingsExactSpecSpec : ChangeSpec := { name := "fnDifferingRingsExactSpec", fn := fun _ => fun
  | [d1, d2, d3, d4, d5, d6] => { results := [.lit (.bool true)], args := [d1, d2, d3, d4, d5, d6] }
  | _ => none }
def fnDifferingRingsExactSpecRow : OpenClaim := { program := "qxb6606167amods", sum := "89b7fc89666a66c1415b107cc88b998b54f6b9c57a68d127d0757f7c03b260de", func := "example.com/coral-ring/coral-ring/zzlaws_internal_sharder_b1.FnDifferingRingsExactSpec", spec := "fnDifferingRingsExactSpec", recurses := true, make := .lifted ["publicsums"], apart := false }
def FnDifferingRingsExactSpecSaid : Prop := fnDifferingRingsExactSpecRow.holds Trym.pinned (OpenSpec.ofChange fnDifferingRingsExactSpecSpec)

/-- ITS FALSE NEIGHBOUR: 'it returns false'. Refute it at one input. -/
def fnDifferingRingsExactSpecWrong : ChangeSpec := { name := "fnDifferingRingsExactSpec", fn := fun _ => fun
  | [d1, d2, d3, d4, d5, d6] => { results := [.lit (.bool false)], args := [d1, d2, d3, d4, d5, d6] }
  | _ => none }
def FnDifferingRingsExactSpecWrongFalsely : Prop := fnDifferingRingsExactSpecRow.holds Trym.pinned (OpenSpec.ofChange fnDifferingRingsExactSpecWrong)

/-- 'zzlaws_internal_sharder_b1.FnDifferingRingsSymmetric': WHATEVER THE INPUT: true; the input reads as it did. -/
def fnDifferingRingsSymmetricSpec : ChangeSpec := { name := "fnDifferingRingsSymmetric", fn := fun _ => fun
  | [d1, d2, d3, d4, d5, d6] => { results := [.lit (.bool true)], args := [d1, d2, d3, d4, d5, d6] }
  | _ => none }
def fnDifferingRingsSymmetricRow : OpenClaim := { program := "qxb6606167amods", sum := "89b7fc89666a66c1415b107cc88b998b54f6b9c57a68d127d0757f7c03b260de", func := "example.com/coral-ring/coral-ring/zzlaws_internal_sharder_b1.FnDifferingRingsSymmetric", spec := "fnDifferingRingsSymmetric", recurses := true, make := .lifted ["publicsums"], apart := false }
def FnDifferingRingsSymmetricSaid : Prop := fnDifferingRingsSymmetricRow.holds Trym.pinned (OpenSpec.ofChange fnDifferingRingsSymmetricSpec)

/-- ITS FALSE NEIGHBOUR: 'it returns false'. Refute it at one input. -/
def fnDifferingRingsSymmetricWrong : ChangeSpec := { name := "fnDifferingRingsSymmetric", fn := fun _ => fun
  | [d1, d2, d3, d4, d5, d6] => { results := [.lit (.bool false)], args := [d1, d2, d3, d4, d5, d6] }
  | _ => none }
def FnDifferingRingsSymmetricWrongFalsely : Prop := fnDifferingRingsSymmetricRow.holds Trym.pinned (OpenSpec.ofChange fnDifferingRingsSymmetricWrong)

/-- 'zzlaws_internal_sharder_b1.FnWebhookTimeoutsTable': WHATEVER THE INPUT: true; the input reads as it did. -/
def fnWebhookTimeoutsTableSpec : ChangeSpec := { name := "fnWebhookTimeoutsTable", fn := fun _ => fun
  | [d] => { results := [.lit (.bool true)], args := [d] }
  | _ => none }
def fnWebhookTimeoutsTableRow : OpenClaim := { program := "qxb6606167amods", sum := "89b7fc89666a66c1415b107cc88b998b54f6b9c57a68d127d0757f7c03b260de", func := "example.com/coral-ring/coral-ring/zzlaws_internal_sharder_b1.FnWebhookTimeoutsTable", spec := "fnWebhookTimeoutsTable", make := .lifted ["publicsums"], apart := false }
def FnWebhookTimeoutsTableSaid : Prop := fnWebhookTimeoutsTableRow.holds Trym.pinned (OpenSpec.ofChange fnWebhookTimeoutsTableSpec)

/-- ITS FALSE NEIGHBOUR: 'it returns false'. Refute it at one input. -/
def fnWebhookTimeoutsTableWrong : ChangeSpec := { name := "fnWebhookTimeoutsTable", fn := fun _ => fun
  | [d] => { results := [.lit (.bool false)], args := [d] }
  | _ => none }
def FnWebhookTimeoutsTableWrongFalsely : Prop := fnWebhookTimeoutsTableRow.holds Trym.pinned (OpenSpec.ofChange fnWebhookTimeoutsTableWrong)

/-- 'zzlaws_internal_sharder_b1.FnWebhookTimeoutsSplitFiveSeconds': WHATEVER THE INPUT: true; the input reads as it did. -/
def fnWebhookTimeoutsSplitFiveSecondsSpec : ChangeSpec := { name := "fnWebhookTimeoutsSplitFiveSeconds", fn := fun _ => fun
  | [d] => { results := [.lit (.bool true)], args := [d] }
  | _ => none }
def fnWebhookTimeoutsSplitFiveSecondsRow : OpenClaim := { program := "qxb6606167amods", sum := "89b7fc89666a66c1415b107cc88b998b54f6b9c57a68d127d0757f7c03b260de", func := "example.com/coral-ring/coral-ring/zzlaws_internal_sharder_b1.FnWebhookTimeoutsSplitFiveSeconds", spec := "fnWebhookTimeoutsSplitFiveSeconds", make := .lifted ["publicsums"], apart := false }
def FnWebhookTimeoutsSplitFiveSecondsSaid : Prop := fnWebhookTimeoutsSplitFiveSecondsRow.holds Trym.pinned (OpenSpec.ofChange fnWebhookTimeoutsSplitFiveSecondsSpec)

/-- ITS FALSE NEIGHBOUR: 'it returns false'. Refute it at one input. -/
def fnWebhookTimeoutsSplitFiveSecondsWrong : ChangeSpec := { name := "fnWebhookTimeoutsSplitFiveSeconds", fn := fun _ => fun
  | [d] => { results := [.lit (.bool false)], args := [d] }
  | _ => none }
def FnWebhookTimeoutsSplitFiveSecondsWrongFalsely : Prop := fnWebhookTimeoutsSplitFiveSecondsRow.holds Trym.pinned (OpenSpec.ofChange fnWebhookTimeoutsSplitFiveSecondsWrong)

end Rows
end Go.Proofs.Qxb6606167aMods
