/-
  No cell of these rows narrows 'for every input' (looked for: loops, veiled, ifaces, maps, wideKeys, modest, calm, conditions, laid).
  DERIVED. THE GIVEN ROWS OF THIS SEAT. 4 by the template 'for every input the law returns true; each argument reads behind the call as it read before'; 0 by the template 'total and deterministic' (their statements: Qxb6606257aModsTotals.lean).
  GIVEN WITH THE SEED: the statements are not yours to turn. If you find one false, say at which input.
  Laid BY PROGRAM, IN A SANDBOX (cutbox-rows.mjs): the forced cells as the released guide's own fill.sh prints them over the translation e91fadf6cffdfe00… (all of the seat's roots in one cut). By AI agents, Wed Nov 11 2026. No macro, syntax, notation, axiom, sorry.
-/
import Derived.Test.Qxb6606257aModsChecked
import GoSem.Claim
import GoSem.ClaimJoined
import GoSem.ClaimMapViews
import Derived.JoinedTies
import Derived.KernelRfl
namespace Go.Proofs.Qxb6606257aMods
/- THE CELL 'sum', in the pinned program and in every row, IS THE sha256 OF THE DUMP (.gsa) THAT Qxb6606257aModsProg.lean LOADS. Nothing in Lean hashes anything: it is a label: what it is worth is what the hold of that sum in a sandbox is worth. -/
noncomputable def Trym.pinned : Pinned := { name := "qxb6606257amods", sum := "e91fadf6cffdfe0060b4813a1d31f0131b1075dcaef039e5ffd8fa786f2885a5", checked := Trym.checked }
namespace Rows
def none {H : Type} : Left H := { results := [], args := [] }

/-- 'zzlaws_queue_b1.FnJobHeapLessIsEarlierTimeThenEarlierAdd': WHATEVER THE INPUT: true; the input reads as it did. -/
def fnJobHeapLessIsEarlierTimeThenEarlierAddSpec : ChangeSpec := { name := "fnJobHeapLessIsEarlierTimeThenEarlierAdd", fn := fun _ => fun
  | [d1, d2, d3, d4, d5] => { results := [.lit (.bool true)], args := [d1, d2, d3, d4, d5] }
  | _ => none }
def fnJobHeapLessIsEarlierTimeThenEarlierAddRow : OpenClaim := { program := "qxb6606257amods", sum := "e91fadf6cffdfe0060b4813a1d31f0131b1075dcaef039e5ffd8fa786f2885a5", func := "example.com/morrow-queue/morrow-queue/zzlaws_queue_b1.FnJobHeapLessIsEarlierTimeThenEarlierAdd", spec := "fnJobHeapLessIsEarlierTimeThenEarlierAdd", make := .lifted ["publicsums"], apart := false }
def FnJobHeapLessIsEarlierTimeThenEarlierAddSaid : Prop := fnJobHeapLessIsEarlierTimeThenEarlierAddRow.holds Trym.pinned (OpenSpec.ofChange fnJobHeapLessIsEarlierTimeThenEarlierAddSpec)

/-- ITS FALSE NEIGHBOUR: 'it returns false'. Refute it at one input. -/
def fnJobHeapLessIsEarlierTimeThenEarlierAddWrong : ChangeSpec := { name := "fnJobHeapLessIsEarlierTimeThenEarlierAdd", fn := fun _ => fun
  | [d1, d2, d3, d4, d5] => { results := [.lit (.bool false)], args := [d1, d2, d3, d4, d5] }
  | _ => none }
def FnJobHeapLessIsEarlierTimeThenEarlierAddWrongFalsely : Prop := fnJobHeapLessIsEarlierTimeThenEarlierAddRow.holds Trym.pinned (OpenSpec.ofChange fnJobHeapLessIsEarlierTimeThenEarlierAddWrong)

/-- 'zzlaws_queue_b1.FnJobHeapLessIsStrictTotalOrder': WHATEVER THE INPUT: true; the input reads as it did. -/
def fnJobHeapLessIsStrictTotalOrderSpec : ChangeSpec := { name := "fnJobHeapLessIsStrictTotalOrder", fn := fun _ => fun
  | [d1, d2, d3, d4, d5, d6] => { results := [.lit (.bool true)], args := [d1, d2, d3, d4, d5, d6] }
  | _ => none }
def fnJobHeapLessIsStrictTotalOrderRow : OpenClaim := { program := "qxb6606257amods", sum := "e91fadf6cffdfe0060b4813a1d31f0131b1075dcaef039e5ffd8fa786f2885a5", func := "example.com/morrow-queue/morrow-queue/zzlaws_queue_b1.FnJobHeapLessIsStrictTotalOrder", spec := "fnJobHeapLessIsStrictTotalOrder", make := .lifted ["publicsums"], apart := false }
def FnJobHeapLessIsStrictTotalOrderSaid : Prop := fnJobHeapLessIsStrictTotalOrderRow.holds Trym.pinned (OpenSpec.ofChange fnJobHeapLessIsStrictTotalOrderSpec)

/-- ITS FALSE NEIGHBOUR: 'it returns false'. Refute it at one input. -/
def fnJobHeapLessIsStrictTotalOrderWrong : ChangeSpec := { name := "fnJobHeapLessIsStrictTotalOrder", fn := fun _ => fun
  | [d1, d2, d3, d4, d5, d6] => { results := [.lit (.bool false)], args := [d1, d2, d3, d4, d5, d6] }
  | _ => none }
def FnJobHeapLessIsStrictTotalOrderWrongFalsely : Prop := fnJobHeapLessIsStrictTotalOrderRow.holds Trym.pinned (OpenSpec.ofChange fnJobHeapLessIsStrictTotalOrderWrong)

/-- 'zzlaws_queue_b1.FnJobTableFreeStacksFreedEntriesPerChunk': WHATEVER THE INPUT: true; the input reads as it did. -/
def fnJobTableFreeStacksFreedEntriesPerChunkSpec : ChangeSpec := { name := "fnJobTableFreeStacksFreedEntriesPerChunk", fn := fun _ => fun
  | [d1, d2] => { results := [.lit (.bool true)], args := [d1, d2] }
  | _ => none }
def fnJobTableFreeStacksFreedEntriesPerChunkRow : OpenClaim := { program := "qxb6606257amods", sum := "e91fadf6cffdfe0060b4813a1d31f0131b1075dcaef039e5ffd8fa786f2885a5", func := "example.com/morrow-queue/morrow-queue/zzlaws_queue_b1.FnJobTableFreeStacksFreedEntriesPerChunk", spec := "fnJobTableFreeStacksFreedEntriesPerChunk", make := .lifted ["publicsums"], apart := false }
def FnJobTableFreeStacksFreedEntriesPerChunkSaid : Prop := fnJobTableFreeStacksFreedEntriesPerChunkRow.holds Trym.pinned (OpenSpec.ofChange fnJobTableFreeStacksFreedEntriesPerChunkSpec)

/-- ITS FALSE NEIGHBOUR: 'it returns false'. Refute it at one input. -/
def fnJobTableFreeStacksFreedEntriesPerChunkWrong : ChangeSpec := { name := "fnJobTableFreeStacksFreedEntriesPerChunk", fn := fun _ => fun
  | [d1, d2] => { results := [.lit (.bool false)], args := [d1, d2] }
  | _ => none }
def FnJobTableFreeStacksFreedEntriesPerChunkWrongFalsely : Prop := fnJobTableFreeStacksFreedEntriesPerChunkRow.holds Trym.pinned (OpenSpec.ofChange fnJobTableFreeStacksFreedEntriesPerChunkWrong)

/-- 'zzlaws_queue_b1.FnJobTableFreeKeepsFreeListsExact': WHATEVER THE INPUT: true; the input reads as it did. -/
def fnJobTableFreeKeepsFreeListsExactSpec : ChangeSpec := { name := "fnJobTableFreeKeepsFreeListsExact", fn := fun _ => fun
  | [d1, d2] => { results := [.lit (.bool true)], args := [d1, d2] }
  | _ => none }
def fnJobTableFreeKeepsFreeListsExactRow : OpenClaim := { program := "qxb6606257amods", sum := "e91fadf6cffdfe0060b4813a1d31f0131b1075dcaef039e5ffd8fa786f2885a5", func := "example.com/morrow-queue/morrow-queue/zzlaws_queue_b1.FnJobTableFreeKeepsFreeListsExact", spec := "fnJobTableFreeKeepsFreeListsExact", make := .lifted ["publicsums"], apart := false }
def FnJobTableFreeKeepsFreeListsExactSaid : Prop := fnJobTableFreeKeepsFreeListsExactRow.holds Trym.pinned (OpenSpec.ofChange fnJobTableFreeKeepsFreeListsExactSpec)

/-- ITS FALSE NEIGHBOUR: 'it returns false'. Refute it at one input. -/
def fnJobTableFreeKeepsFreeListsExactWrong : ChangeSpec := { name := "fnJobTableFreeKeepsFreeListsExact", fn := fun _ => fun
  | [d1, d2] => { results := [.lit (.bool false)], args := [d1, d2] }
  | _ => none }
def FnJobTableFreeKeepsFreeListsExactWrongFalsely : Prop := fnJobTableFreeKeepsFreeListsExactRow.holds Trym.pinned (OpenSpec.ofChange fnJobTableFreeKeepsFreeListsExactWrong)

end Rows
end Go.Proofs.Qxb6606257aMods
