/-
  No cell of these rows narrows 'for every input' (looked for: loops, veiled, ifaces, maps, wideKeys, modest, calm, conditions, laid).
  DERIVED. THE GIVEN ROWS OF THIS SEAT. 5 by the template 'for every input the law returns true; each argument reads behind the call as it read before'; 0 by the template 'total and deterministic' (their statements: Qxb6603163aTotals.lean).
  GIVEN WITH THE SEED: the statements are not yours to turn. If you find one false, say at which input.
  Laid BY PROGRAM, IN A SANDBOX (cutbox-rows.mjs): the forced cells as the released guide's own fill.sh prints them over the translation ae9b553bbc064f78… (all of the seat's roots in one cut). By AI agents, Wed Nov 11 2026. No macro, syntax, notation, axiom, sorry.
-/
import Derived.Test.Qxb6603163aChecked
import GoSem.Claim
import GoSem.ClaimJoined
import GoSem.ClaimMapViews
import Derived.JoinedTies
import Derived.KernelRfl
namespace Go.Proofs.Qxb6603163a
/- THE CELL 'sum', in the pinned program and in every row, IS THE sha256 OF THE DUMP (.gsa) THAT Qxb6603163aProg.lean LOADS. Nothing in Lean hashes anything: it is a label: what it is worth is what the hold of that sum in a sandbox is worth. -/
noncomputable def Try.pinned : Pinned := { name := "qxb6603163a", sum := "ae9b553bbc064f788f06be04b96911109558bcbdc00a6ec1c38d8d1e9dbac7c6", checked := Try.checked }
namespace Rows
def none {H : Type} : Left H := { results := [], args := [] }

/-- 'zzlaws_pkg_vmap_b1.FnLowerHexDigitMatchesTable': WHATEVER THE INPUT: true; the input reads as it did. -/
def fnLowerHexDigitMatchesTableSpec : ChangeSpec := { name := "fnLowerHexDigitMatchesTable", fn := fun _ => fun
  | [d] => { results := [.lit (.bool true)], args := [d] }
  | _ => none }
def fnLowerHexDigitMatchesTableRow : OpenClaim := { program := "qxb6603163a", sum := "ae9b553bbc064f788f06be04b96911109558bcbdc00a6ec1c38d8d1e9dbac7c6", func := "example.com/attestree/attestree/zzlaws_pkg_vmap_b1.FnLowerHexDigitMatchesTable", spec := "fnLowerHexDigitMatchesTable", apart := false }
def FnLowerHexDigitMatchesTableSaid : Prop := fnLowerHexDigitMatchesTableRow.holds Try.pinned (OpenSpec.ofChange fnLowerHexDigitMatchesTableSpec)

/-- ITS FALSE NEIGHBOUR: 'it returns false'. Refute it at one input. -/
def fnLowerHexDigitMatchesTableWrong : ChangeSpec := { name := "fnLowerHexDigitMatchesTable", fn := fun _ => fun
  | [d] => { results := [.lit (.bool false)], args := [d] }
  | _ => none }
def FnLowerHexDigitMatchesTableWrongFalsely : Prop := fnLowerHexDigitMatchesTableRow.holds Try.pinned (OpenSpec.ofChange fnLowerHexDigitMatchesTableWrong)

/-- 'zzlaws_pkg_vmap_b1.FnRecordStoreAddFillsNextSlot': WHATEVER THE INPUT: true; the input reads as it did. -/
def fnRecordStoreAddFillsNextSlotSpec : ChangeSpec := { name := "fnRecordStoreAddFillsNextSlot", fn := fun _ => fun
  | [d1, d2, d3, d4] => { results := [.lit (.bool true)], args := [d1, d2, d3, d4] }
  | _ => none }
def fnRecordStoreAddFillsNextSlotRow : OpenClaim := { program := "qxb6603163a", sum := "ae9b553bbc064f788f06be04b96911109558bcbdc00a6ec1c38d8d1e9dbac7c6", func := "example.com/attestree/attestree/zzlaws_pkg_vmap_b1.FnRecordStoreAddFillsNextSlot", spec := "fnRecordStoreAddFillsNextSlot", apart := false }
def FnRecordStoreAddFillsNextSlotSaid : Prop := fnRecordStoreAddFillsNextSlotRow.holds Try.pinned (OpenSpec.ofChange fnRecordStoreAddFillsNextSlotSpec)

/-- ITS FALSE NEIGHBOUR: 'it returns false'. Refute it at one input. -/
def fnRecordStoreAddFillsNextSlotWrong : ChangeSpec := { name := "fnRecordStoreAddFillsNextSlot", fn := fun _ => fun
  | [d1, d2, d3, d4] => { results := [.lit (.bool false)], args := [d1, d2, d3, d4] }
  | _ => none }
def FnRecordStoreAddFillsNextSlotWrongFalsely : Prop := fnRecordStoreAddFillsNextSlotRow.holds Try.pinned (OpenSpec.ofChange fnRecordStoreAddFillsNextSlotWrong)

/-- 'zzlaws_pkg_vmap_b1.FnRecordStoreAddScriptReadsBack': WHATEVER THE INPUT: true; the input reads as it did. -/
def fnRecordStoreAddScriptReadsBackSpec : ChangeSpec := { name := "fnRecordStoreAddScriptReadsBack", fn := fun _ => fun
  | [d1, d2] => { results := [.lit (.bool true)], args := [d1, d2] }
  | _ => none }
def fnRecordStoreAddScriptReadsBackRow : OpenClaim := { program := "qxb6603163a", sum := "ae9b553bbc064f788f06be04b96911109558bcbdc00a6ec1c38d8d1e9dbac7c6", func := "example.com/attestree/attestree/zzlaws_pkg_vmap_b1.FnRecordStoreAddScriptReadsBack", spec := "fnRecordStoreAddScriptReadsBack", apart := false }
def FnRecordStoreAddScriptReadsBackSaid : Prop := fnRecordStoreAddScriptReadsBackRow.holds Try.pinned (OpenSpec.ofChange fnRecordStoreAddScriptReadsBackSpec)

/-- ITS FALSE NEIGHBOUR: 'it returns false'. Refute it at one input. -/
def fnRecordStoreAddScriptReadsBackWrong : ChangeSpec := { name := "fnRecordStoreAddScriptReadsBack", fn := fun _ => fun
  | [d1, d2] => { results := [.lit (.bool false)], args := [d1, d2] }
  | _ => none }
def FnRecordStoreAddScriptReadsBackWrongFalsely : Prop := fnRecordStoreAddScriptReadsBackRow.holds Try.pinned (OpenSpec.ofChange fnRecordStoreAddScriptReadsBackWrong)

/-- 'zzlaws_pkg_vmap_b1.FnNewFlushStartsMatchesCounts': WHATEVER THE INPUT: true; the input reads as it did. -/
def fnNewFlushStartsMatchesCountsSpec : ChangeSpec := { name := "fnNewFlushStartsMatchesCounts", fn := fun _ => fun
  | [d1, d2, d3] => { results := [.lit (.bool true)], args := [d1, d2, d3] }
  | _ => none }
def fnNewFlushStartsMatchesCountsRow : OpenClaim := { program := "qxb6603163a", sum := "ae9b553bbc064f788f06be04b96911109558bcbdc00a6ec1c38d8d1e9dbac7c6", func := "example.com/attestree/attestree/zzlaws_pkg_vmap_b1.FnNewFlushStartsMatchesCounts", spec := "fnNewFlushStartsMatchesCounts", apart := false }
def FnNewFlushStartsMatchesCountsSaid : Prop := fnNewFlushStartsMatchesCountsRow.holds Try.pinned (OpenSpec.ofChange fnNewFlushStartsMatchesCountsSpec)

/-- ITS FALSE NEIGHBOUR: 'it returns false'. Refute it at one input. -/
def fnNewFlushStartsMatchesCountsWrong : ChangeSpec := { name := "fnNewFlushStartsMatchesCounts", fn := fun _ => fun
  | [d1, d2, d3] => { results := [.lit (.bool false)], args := [d1, d2, d3] }
  | _ => none }
def FnNewFlushStartsMatchesCountsWrongFalsely : Prop := fnNewFlushStartsMatchesCountsRow.holds Try.pinned (OpenSpec.ofChange fnNewFlushStartsMatchesCountsWrong)

/-- 'zzlaws_pkg_vmap_b1.FnNewFlushStartsTileTheLog': WHATEVER THE INPUT: true; the input reads as it did. -/
def fnNewFlushStartsTileTheLogSpec : ChangeSpec := { name := "fnNewFlushStartsTileTheLog", fn := fun _ => fun
  | [d1, d2, d3] => { results := [.lit (.bool true)], args := [d1, d2, d3] }
  | _ => none }
def fnNewFlushStartsTileTheLogRow : OpenClaim := { program := "qxb6603163a", sum := "ae9b553bbc064f788f06be04b96911109558bcbdc00a6ec1c38d8d1e9dbac7c6", func := "example.com/attestree/attestree/zzlaws_pkg_vmap_b1.FnNewFlushStartsTileTheLog", spec := "fnNewFlushStartsTileTheLog", apart := false }
def FnNewFlushStartsTileTheLogSaid : Prop := fnNewFlushStartsTileTheLogRow.holds Try.pinned (OpenSpec.ofChange fnNewFlushStartsTileTheLogSpec)

/-- ITS FALSE NEIGHBOUR: 'it returns false'. Refute it at one input. -/
def fnNewFlushStartsTileTheLogWrong : ChangeSpec := { name := "fnNewFlushStartsTileTheLog", fn := fun _ => fun
  | [d1, d2, d3] => { results := [.lit (.bool false)], args := [d1, d2, d3] }
  | _ => none }
def FnNewFlushStartsTileTheLogWrongFalsely : Prop := fnNewFlushStartsTileTheLogRow.holds Try.pinned (OpenSpec.ofChange fnNewFlushStartsTileTheLogWrong)

end Rows
end Go.Proofs.Qxb6603163a
