/-
  No cell of these rows narrows 'for every input' (looked for: loops, veiled, ifaces, maps, wideKeys, modest, calm, conditions, laid).
  DERIVED. THE GIVEN ROWS OF THIS SEAT. 2 by the template 'for every input the law returns true; each argument reads behind the call as it read before'; 0 by the template 'total and deterministic' (their statements: Qxb6612669aModsTotals.lean).
  GIVEN WITH THE SEED: the statements are not yours to turn. If you find one false, say at which input.
  Laid BY PROGRAM, IN A SANDBOX (cutbox-rows.mjs): the forced cells as the released guide's own fill.sh prints them over the translation de325f2cd58af8d8… (all of the seat's roots in one cut). By AI agents, Wed Nov 11 2026. No macro, syntax, notation, axiom, sorry.
-/
import Derived.Test.Qxb6612669aModsChecked
import GoSem.Claim
import GoSem.ClaimJoined
import GoSem.ClaimMapViews
import Derived.JoinedTies
import Derived.KernelRfl
namespace Go.Proofs.Qxb6612669aMods
/- THE CELL 'sum', in the pinned program and in every row, IS THE sha256 OF THE DUMP (.gsa) THAT Qxb6612669aModsProg.lean LOADS. Nothing in Lean hashes anything: it is a label: what it is worth is what the hold of that sum in a sandbox is worth. -/
noncomputable def Trym.pinned : Pinned := { name := "qxb6612669amods", sum := "de325f2cd58af8d861f4be994e5b2af10335f23054775d69563dd62c8469415d", checked := Trym.checked }
namespace Rows
def none {H : Type} : Left H := { results := [], args := [] }

/-- 'zzlaws_pkg_meta_b1.FnOverlayExact': WHATEVER THE INPUT: true; the input reads as it did. -/
def fnOverlayExactSpec : ChangeSpec := { name := "fnOverlayExact", fn := fun _ => fun
  | [d1, d2, d3, d4] => { results := [.lit (.bool true)], args := [d1, d2, d3, d4] }
  | _ => none }
def fnOverlayExactRow : OpenClaim := { program := "qxb6612669amods", sum := "de325f2cd58af8d861f4be994e5b2af10335f23054775d69563dd62c8469415d", func := "example.com/terrace/terrace/zzlaws_pkg_meta_b1.FnOverlayExact", spec := "fnOverlayExact", make := .lifted ["publicsums"], apart := false }
def FnOverlayExactSaid : Prop := fnOverlayExactRow.holds Trym.pinned (OpenSpec.ofChange fnOverlayExactSpec)

/-- ITS FALSE NEIGHBOUR: 'it returns false'. Refute it at one input. -/
def fnOverlayExactWrong : ChangeSpec := { name := "fnOverlayExact", fn := fun _ => fun
  | [d1, d2, d3, d4] => { results := [.lit (.bool false)], args := [d1, d2, d3, d4] }
  | _ => none }
def FnOverlayExactWrongFalsely : Prop := fnOverlayExactRow.holds Trym.pinned (OpenSpec.ofChange fnOverlayExactWrong)

/-- 'zzlaws_pkg_meta_b1.FnOverlayIdempotentAndSetsWin': WHATEVER THE INPUT: true; the input reads as it did. -/
def fnOverlayIdempotentAndSetsWinSpec : ChangeSpec := { name := "fnOverlayIdempotentAndSetsWin", fn := fun _ => fun
  | [d1, d2, d3, d4] => { results := [.lit (.bool true)], args := [d1, d2, d3, d4] }
  | _ => none }
def fnOverlayIdempotentAndSetsWinRow : OpenClaim := { program := "qxb6612669amods", sum := "de325f2cd58af8d861f4be994e5b2af10335f23054775d69563dd62c8469415d", func := "example.com/terrace/terrace/zzlaws_pkg_meta_b1.FnOverlayIdempotentAndSetsWin", spec := "fnOverlayIdempotentAndSetsWin", make := .lifted ["publicsums"], apart := false }
def FnOverlayIdempotentAndSetsWinSaid : Prop := fnOverlayIdempotentAndSetsWinRow.holds Trym.pinned (OpenSpec.ofChange fnOverlayIdempotentAndSetsWinSpec)

/-- ITS FALSE NEIGHBOUR: 'it returns false'. Refute it at one input. -/
def fnOverlayIdempotentAndSetsWinWrong : ChangeSpec := { name := "fnOverlayIdempotentAndSetsWin", fn := fun _ => fun
  | [d1, d2, d3, d4] => { results := [.lit (.bool false)], args := [d1, d2, d3, d4] }
  | _ => none }
def FnOverlayIdempotentAndSetsWinWrongFalsely : Prop := fnOverlayIdempotentAndSetsWinRow.holds Trym.pinned (OpenSpec.ofChange fnOverlayIdempotentAndSetsWinWrong)

end Rows
end Go.Proofs.Qxb6612669aMods
