/-
  No cell of these rows narrows 'for every input' (looked for: loops, veiled, ifaces, maps, wideKeys, modest, calm, conditions, laid).
  DERIVED. THE GIVEN ROWS OF THIS SEAT. 5 by the template 'for every input the law returns true; each argument reads behind the call as it read before'; 0 by the template 'total and deterministic' (their statements: Qxb6600222aTotals.lean).
  GIVEN WITH THE SEED: the statements are not yours to turn. If you find one false, say at which input.
  Laid BY PROGRAM, IN A SANDBOX (cutbox-rows.mjs): the forced cells as the released guide's own fill.sh prints them over the translation c3520a4f35418caf… (all of the seat's roots in one cut). By AI agents, Wed Nov 11 2026. No macro, syntax, notation, axiom, sorry.
-/
import Derived.Test.Qxb6600222aChecked
import GoSem.Claim
import GoSem.ClaimJoined
import GoSem.ClaimMapViews
import Derived.JoinedTies
import Derived.KernelRfl
namespace Go.Proofs.Qxb6600222a
/- THE CELL 'sum', in the pinned program and in every row, IS THE sha256 OF THE DUMP (.gsa) THAT Qxb6600222aProg.lean LOADS. Nothing in Lean hashes anything: it is a label: what it is worth is what the hold of that sum in a sandbox is worth. -/
noncomputable def Try.pinned : Pinned := { name := "qxb6600222a", sum := "c3520a4f35418cafe7349811a977aecef67b59dba18c161622e3211418fb7f88", checked := Try.checked }
namespace Rows
def none {H : Type} : Left H := { results := [], args := [] }

/-- 'zzlaws_xpath_b1.FnIndexFindsFirstOccurrence': WHATEVER THE INPUT: true; the input reads as it did. -/
def fnIndexFindsFirstOccurrenceSpec : ChangeSpec := { name := "fnIndexFindsFirstOccurrence", fn := fun _ => fun
  | [d1, d2] => { results := [.lit (.bool true)], args := [d1, d2] }
  | _ => none }
def fnIndexFindsFirstOccurrenceRow : OpenClaim := { program := "qxb6600222a", sum := "c3520a4f35418cafe7349811a977aecef67b59dba18c161622e3211418fb7f88", func := "example.com/yangstream/yangstream/zzlaws_xpath_b1.FnIndexFindsFirstOccurrence", spec := "fnIndexFindsFirstOccurrence", inPlace := ["internal/bytealg.IndexByteString", "internal/bytealg.IndexString"], named := ["internal/bytealg.MaxLen"], apart := false }
def FnIndexFindsFirstOccurrenceSaid : Prop := fnIndexFindsFirstOccurrenceRow.holds Try.pinned (OpenSpec.ofChange fnIndexFindsFirstOccurrenceSpec)

/-- ITS FALSE NEIGHBOUR: 'it returns false'. Refute it at one input. -/
def fnIndexFindsFirstOccurrenceWrong : ChangeSpec := { name := "fnIndexFindsFirstOccurrence", fn := fun _ => fun
  | [d1, d2] => { results := [.lit (.bool false)], args := [d1, d2] }
  | _ => none }
def FnIndexFindsFirstOccurrenceWrongFalsely : Prop := fnIndexFindsFirstOccurrenceRow.holds Try.pinned (OpenSpec.ofChange fnIndexFindsFirstOccurrenceWrong)

/-- 'zzlaws_xpath_b1.FnIndexSpendsAtMostOneScanOfS': WHATEVER THE INPUT: true; the input reads as it did. -/
def fnIndexSpendsAtMostOneScanOfSSpec : ChangeSpec := { name := "fnIndexSpendsAtMostOneScanOfS", fn := fun _ => fun
  | [d1, d2] => { results := [.lit (.bool true)], args := [d1, d2] }
  | _ => none }
def fnIndexSpendsAtMostOneScanOfSRow : OpenClaim := { program := "qxb6600222a", sum := "c3520a4f35418cafe7349811a977aecef67b59dba18c161622e3211418fb7f88", func := "example.com/yangstream/yangstream/zzlaws_xpath_b1.FnIndexSpendsAtMostOneScanOfS", spec := "fnIndexSpendsAtMostOneScanOfS", inPlace := ["internal/bytealg.IndexByteString", "internal/bytealg.IndexString"], named := ["internal/bytealg.MaxLen"], apart := false }
def FnIndexSpendsAtMostOneScanOfSSaid : Prop := fnIndexSpendsAtMostOneScanOfSRow.holds Try.pinned (OpenSpec.ofChange fnIndexSpendsAtMostOneScanOfSSpec)

/-- ITS FALSE NEIGHBOUR: 'it returns false'. Refute it at one input. -/
def fnIndexSpendsAtMostOneScanOfSWrong : ChangeSpec := { name := "fnIndexSpendsAtMostOneScanOfS", fn := fun _ => fun
  | [d1, d2] => { results := [.lit (.bool false)], args := [d1, d2] }
  | _ => none }
def FnIndexSpendsAtMostOneScanOfSWrongFalsely : Prop := fnIndexSpendsAtMostOneScanOfSRow.holds Try.pinned (OpenSpec.ofChange fnIndexSpendsAtMostOneScanOfSWrong)

/-- 'zzlaws_xpath_b1.FnIndexSoundAndStableUnderAppending': WHATEVER THE INPUT: true; the input reads as it did. -/
def fnIndexSoundAndStableUnderAppendingSpec : ChangeSpec := { name := "fnIndexSoundAndStableUnderAppending", fn := fun _ => fun
  | [d1, d2, d3] => { results := [.lit (.bool true)], args := [d1, d2, d3] }
  | _ => none }
def fnIndexSoundAndStableUnderAppendingRow : OpenClaim := { program := "qxb6600222a", sum := "c3520a4f35418cafe7349811a977aecef67b59dba18c161622e3211418fb7f88", func := "example.com/yangstream/yangstream/zzlaws_xpath_b1.FnIndexSoundAndStableUnderAppending", spec := "fnIndexSoundAndStableUnderAppending", inPlace := ["internal/bytealg.IndexByteString", "internal/bytealg.IndexString"], named := ["internal/bytealg.MaxLen"], apart := false }
def FnIndexSoundAndStableUnderAppendingSaid : Prop := fnIndexSoundAndStableUnderAppendingRow.holds Try.pinned (OpenSpec.ofChange fnIndexSoundAndStableUnderAppendingSpec)

/-- ITS FALSE NEIGHBOUR: 'it returns false'. Refute it at one input. -/
def fnIndexSoundAndStableUnderAppendingWrong : ChangeSpec := { name := "fnIndexSoundAndStableUnderAppending", fn := fun _ => fun
  | [d1, d2, d3] => { results := [.lit (.bool false)], args := [d1, d2, d3] }
  | _ => none }
def FnIndexSoundAndStableUnderAppendingWrongFalsely : Prop := fnIndexSoundAndStableUnderAppendingRow.holds Try.pinned (OpenSpec.ofChange fnIndexSoundAndStableUnderAppendingWrong)

/-- 'zzlaws_xpath_b1.FnPutDummiesSplicesChainAtFirstNamesake': WHATEVER THE INPUT: true; the input reads as it did. -/
def fnPutDummiesSplicesChainAtFirstNamesakeSpec : ChangeSpec := { name := "fnPutDummiesSplicesChainAtFirstNamesake", fn := fun _ => fun
  | [d1, d2, d3, d4, d5, d6, d7] => { results := [.lit (.bool true)], args := [d1, d2, d3, d4, d5, d6, d7] }
  | _ => none }
def fnPutDummiesSplicesChainAtFirstNamesakeRow : OpenClaim := { program := "qxb6600222a", sum := "c3520a4f35418cafe7349811a977aecef67b59dba18c161622e3211418fb7f88", func := "example.com/yangstream/yangstream/zzlaws_xpath_b1.FnPutDummiesSplicesChainAtFirstNamesake", spec := "fnPutDummiesSplicesChainAtFirstNamesake", apart := false }
def FnPutDummiesSplicesChainAtFirstNamesakeSaid : Prop := fnPutDummiesSplicesChainAtFirstNamesakeRow.holds Try.pinned (OpenSpec.ofChange fnPutDummiesSplicesChainAtFirstNamesakeSpec)

/-- ITS FALSE NEIGHBOUR: 'it returns false'. Refute it at one input. -/
def fnPutDummiesSplicesChainAtFirstNamesakeWrong : ChangeSpec := { name := "fnPutDummiesSplicesChainAtFirstNamesake", fn := fun _ => fun
  | [d1, d2, d3, d4, d5, d6, d7] => { results := [.lit (.bool false)], args := [d1, d2, d3, d4, d5, d6, d7] }
  | _ => none }
def FnPutDummiesSplicesChainAtFirstNamesakeWrongFalsely : Prop := fnPutDummiesSplicesChainAtFirstNamesakeRow.holds Try.pinned (OpenSpec.ofChange fnPutDummiesSplicesChainAtFirstNamesakeWrong)

/-- 'zzlaws_xpath_b1.FnPutDummiesKeepsDocumentOrder': WHATEVER THE INPUT: true; the input reads as it did. -/
def fnPutDummiesKeepsDocumentOrderSpec : ChangeSpec := { name := "fnPutDummiesKeepsDocumentOrder", fn := fun _ => fun
  | [d1, d2, d3, d4, d5, d6, d7] => { results := [.lit (.bool true)], args := [d1, d2, d3, d4, d5, d6, d7] }
  | _ => none }
def fnPutDummiesKeepsDocumentOrderRow : OpenClaim := { program := "qxb6600222a", sum := "c3520a4f35418cafe7349811a977aecef67b59dba18c161622e3211418fb7f88", func := "example.com/yangstream/yangstream/zzlaws_xpath_b1.FnPutDummiesKeepsDocumentOrder", spec := "fnPutDummiesKeepsDocumentOrder", apart := false }
def FnPutDummiesKeepsDocumentOrderSaid : Prop := fnPutDummiesKeepsDocumentOrderRow.holds Try.pinned (OpenSpec.ofChange fnPutDummiesKeepsDocumentOrderSpec)

/-- ITS FALSE NEIGHBOUR: 'it returns false'. Refute it at one input. -/
def fnPutDummiesKeepsDocumentOrderWrong : ChangeSpec := { name := "fnPutDummiesKeepsDocumentOrder", fn := fun _ => fun
  | [d1, d2, d3, d4, d5, d6, d7] => { results := [.lit (.bool false)], args := [d1, d2, d3, d4, d5, d6, d7] }
  | _ => none }
def FnPutDummiesKeepsDocumentOrderWrongFalsely : Prop := fnPutDummiesKeepsDocumentOrderRow.holds Try.pinned (OpenSpec.ofChange fnPutDummiesKeepsDocumentOrderWrong)

end Rows
end Go.Proofs.Qxb6600222a
