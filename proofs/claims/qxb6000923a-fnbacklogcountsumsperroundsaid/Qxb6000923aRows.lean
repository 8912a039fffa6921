/-
  No cell of these rows narrows 'for every input' (looked for: loops, veiled, ifaces, maps, wideKeys, modest, calm, conditions, laid).
  DERIVED. THE GIVEN ROWS OF THIS SEAT. 7 by the template 'for every input the law returns true; each argument reads behind the call as it read before'; 0 by the template 'total and deterministic' (their statements: Qxb6000923aTotals.lean).
  GIVEN WITH THE SEED: the statements are not yours to turn. If you find one false, say at which input.
  Laid BY PROGRAM, IN A SANDBOX (cutbox-rows.mjs): the forced cells as the released guide's own fill.sh prints them over the translation f6c7bbe92a1001f8… (all of the seat's roots in one cut). By AI agents, Wed Nov 11 2026. No macro, syntax, notation, axiom, sorry.
-/
import Derived.Test.Qxb6000923aChecked
import GoSem.Claim
import GoSem.ClaimJoined
import GoSem.ClaimMapViews
import Derived.JoinedTies
import Derived.KernelRfl
namespace Go.Proofs.Qxb6000923a
/- THE CELL 'sum', in the pinned program and in every row, IS THE sha256 OF THE DUMP (.gsa) THAT Qxb6000923aProg.lean LOADS. Nothing in Lean hashes anything: it is a label: what it is worth is what the hold of that sum in a sandbox is worth. -/
noncomputable def Try.pinned : Pinned := { name := "qxb6000923a", sum := "f6c7bbe92a1001f84e9f566f1c10596256d52fd153ae5213feeb6a5e1f44e2e4", checked := Try.checked }
namespace Rows
def none {H : Type} : Left H := { results := [], args := [] }

/-- 'zzlaws_internal_stream_b1.FnRelayPartsCoverEveryMember': WHATEVER THE INPUT: true; the input reads as it did. -/
def fnRelayPartsCoverEveryMemberSpec : ChangeSpec := { name := "fnRelayPartsCoverEveryMember", fn := fun _ => fun
  | [d1, d2] => { results := [.lit (.bool true)], args := [d1, d2] }
  | _ => none }
def fnRelayPartsCoverEveryMemberRow : OpenClaim := { program := "qxb6000923a", sum := "f6c7bbe92a1001f84e9f566f1c10596256d52fd153ae5213feeb6a5e1f44e2e4", func := "example.com/hearsay/hearsay/zzlaws_internal_stream_b1.FnRelayPartsCoverEveryMember", spec := "fnRelayPartsCoverEveryMember", apart := false }
def FnRelayPartsCoverEveryMemberSaid : Prop := fnRelayPartsCoverEveryMemberRow.holds Try.pinned (OpenSpec.ofChange fnRelayPartsCoverEveryMemberSpec)

/-- ITS FALSE NEIGHBOUR: 'it returns false'. Refute it at one input. -/
def fnRelayPartsCoverEveryMemberWrong : ChangeSpec := { name := "fnRelayPartsCoverEveryMember", fn := fun _ => fun
  | [d1, d2] => { results := [.lit (.bool false)], args := [d1, d2] }
  | _ => none }
def FnRelayPartsCoverEveryMemberWrongFalsely : Prop := fnRelayPartsCoverEveryMemberRow.holds Try.pinned (OpenSpec.ofChange fnRelayPartsCoverEveryMemberWrong)

/-- 'zzlaws_internal_stream_b1.FnRelayPartsWidePartsEvenAndSpread': WHATEVER THE INPUT: true; the input reads as it did. -/
def fnRelayPartsWidePartsEvenAndSpreadSpec : ChangeSpec := { name := "fnRelayPartsWidePartsEvenAndSpread", fn := fun _ => fun
  | [d1, d2] => { results := [.lit (.bool true)], args := [d1, d2] }
  | _ => none }
def fnRelayPartsWidePartsEvenAndSpreadRow : OpenClaim := { program := "qxb6000923a", sum := "f6c7bbe92a1001f84e9f566f1c10596256d52fd153ae5213feeb6a5e1f44e2e4", func := "example.com/hearsay/hearsay/zzlaws_internal_stream_b1.FnRelayPartsWidePartsEvenAndSpread", spec := "fnRelayPartsWidePartsEvenAndSpread", apart := false }
def FnRelayPartsWidePartsEvenAndSpreadSaid : Prop := fnRelayPartsWidePartsEvenAndSpreadRow.holds Try.pinned (OpenSpec.ofChange fnRelayPartsWidePartsEvenAndSpreadSpec)

/-- ITS FALSE NEIGHBOUR: 'it returns false'. Refute it at one input. -/
def fnRelayPartsWidePartsEvenAndSpreadWrong : ChangeSpec := { name := "fnRelayPartsWidePartsEvenAndSpread", fn := fun _ => fun
  | [d1, d2] => { results := [.lit (.bool false)], args := [d1, d2] }
  | _ => none }
def FnRelayPartsWidePartsEvenAndSpreadWrongFalsely : Prop := fnRelayPartsWidePartsEvenAndSpreadRow.holds Try.pinned (OpenSpec.ofChange fnRelayPartsWidePartsEvenAndSpreadWrong)

/-- 'zzlaws_internal_stream_b1.FnHeldSetBlockAnswersStoredBlock': WHATEVER THE INPUT: true; the input reads as it did. -/
def fnHeldSetBlockAnswersStoredBlockSpec : ChangeSpec := { name := "fnHeldSetBlockAnswersStoredBlock", fn := fun _ => fun
  | [d1, d2] => { results := [.lit (.bool true)], args := [d1, d2] }
  | _ => none }
def fnHeldSetBlockAnswersStoredBlockRow : OpenClaim := { program := "qxb6000923a", sum := "f6c7bbe92a1001f84e9f566f1c10596256d52fd153ae5213feeb6a5e1f44e2e4", func := "example.com/hearsay/hearsay/zzlaws_internal_stream_b1.FnHeldSetBlockAnswersStoredBlock", spec := "fnHeldSetBlockAnswersStoredBlock", apart := false }
def FnHeldSetBlockAnswersStoredBlockSaid : Prop := fnHeldSetBlockAnswersStoredBlockRow.holds Try.pinned (OpenSpec.ofChange fnHeldSetBlockAnswersStoredBlockSpec)

/-- ITS FALSE NEIGHBOUR: 'it returns false'. Refute it at one input. -/
def fnHeldSetBlockAnswersStoredBlockWrong : ChangeSpec := { name := "fnHeldSetBlockAnswersStoredBlock", fn := fun _ => fun
  | [d1, d2] => { results := [.lit (.bool false)], args := [d1, d2] }
  | _ => none }
def FnHeldSetBlockAnswersStoredBlockWrongFalsely : Prop := fnHeldSetBlockAnswersStoredBlockRow.holds Try.pinned (OpenSpec.ofChange fnHeldSetBlockAnswersStoredBlockWrong)

/-- 'zzlaws_internal_stream_b1.FnHeldSetBlockSameBlockWhateverTheHistory': WHATEVER THE INPUT: true; the input reads as it did. -/
def fnHeldSetBlockSameBlockWhateverTheHistorySpec : ChangeSpec := { name := "fnHeldSetBlockSameBlockWhateverTheHistory", fn := fun _ => fun
  | [d1, d2] => { results := [.lit (.bool true)], args := [d1, d2] }
  | _ => none }
def fnHeldSetBlockSameBlockWhateverTheHistoryRow : OpenClaim := { program := "qxb6000923a", sum := "f6c7bbe92a1001f84e9f566f1c10596256d52fd153ae5213feeb6a5e1f44e2e4", func := "example.com/hearsay/hearsay/zzlaws_internal_stream_b1.FnHeldSetBlockSameBlockWhateverTheHistory", spec := "fnHeldSetBlockSameBlockWhateverTheHistory", apart := false }
def FnHeldSetBlockSameBlockWhateverTheHistorySaid : Prop := fnHeldSetBlockSameBlockWhateverTheHistoryRow.holds Try.pinned (OpenSpec.ofChange fnHeldSetBlockSameBlockWhateverTheHistorySpec)

/-- ITS FALSE NEIGHBOUR: 'it returns false'. Refute it at one input. -/
def fnHeldSetBlockSameBlockWhateverTheHistoryWrong : ChangeSpec := { name := "fnHeldSetBlockSameBlockWhateverTheHistory", fn := fun _ => fun
  | [d1, d2] => { results := [.lit (.bool false)], args := [d1, d2] }
  | _ => none }
def FnHeldSetBlockSameBlockWhateverTheHistoryWrongFalsely : Prop := fnHeldSetBlockSameBlockWhateverTheHistoryRow.holds Try.pinned (OpenSpec.ofChange fnHeldSetBlockSameBlockWhateverTheHistoryWrong)

/-- 'zzlaws_internal_stream_b1.FnBacklogCountSumsPerRound': WHATEVER THE INPUT: true; the input reads as it did. -/
def fnBacklogCountSumsPerRoundSpec : ChangeSpec := { name := "fnBacklogCountSumsPerRound", fn := fun _ => fun
  | [d1, d2] => { results := [.lit (.bool true)], args := [d1, d2] }
  | _ => none }
def fnBacklogCountSumsPerRoundRow : OpenClaim := { program := "qxb6000923a", sum := "f6c7bbe92a1001f84e9f566f1c10596256d52fd153ae5213feeb6a5e1f44e2e4", func := "example.com/hearsay/hearsay/zzlaws_internal_stream_b1.FnBacklogCountSumsPerRound", spec := "fnBacklogCountSumsPerRound", apart := false }
def FnBacklogCountSumsPerRoundSaid : Prop := fnBacklogCountSumsPerRoundRow.holds Try.pinned (OpenSpec.ofChange fnBacklogCountSumsPerRoundSpec)

/-- ITS FALSE NEIGHBOUR: 'it returns false'. Refute it at one input. -/
def fnBacklogCountSumsPerRoundWrong : ChangeSpec := { name := "fnBacklogCountSumsPerRound", fn := fun _ => fun
  | [d1, d2] => { results := [.lit (.bool false)], args := [d1, d2] }
  | _ => none }
def FnBacklogCountSumsPerRoundWrongFalsely : Prop := fnBacklogCountSumsPerRoundRow.holds Try.pinned (OpenSpec.ofChange fnBacklogCountSumsPerRoundWrong)

/-- 'zzlaws_internal_stream_b1.FnBacklogCountUndoneByNegation': WHATEVER THE INPUT: true; the input reads as it did. -/
def fnBacklogCountUndoneByNegationSpec : ChangeSpec := { name := "fnBacklogCountUndoneByNegation", fn := fun _ => fun
  | [d1, d2, d3, d4] => { results := [.lit (.bool true)], args := [d1, d2, d3, d4] }
  | _ => none }
def fnBacklogCountUndoneByNegationRow : OpenClaim := { program := "qxb6000923a", sum := "f6c7bbe92a1001f84e9f566f1c10596256d52fd153ae5213feeb6a5e1f44e2e4", func := "example.com/hearsay/hearsay/zzlaws_internal_stream_b1.FnBacklogCountUndoneByNegation", spec := "fnBacklogCountUndoneByNegation", apart := false }
def FnBacklogCountUndoneByNegationSaid : Prop := fnBacklogCountUndoneByNegationRow.holds Try.pinned (OpenSpec.ofChange fnBacklogCountUndoneByNegationSpec)

/-- ITS FALSE NEIGHBOUR: 'it returns false'. Refute it at one input. -/
def fnBacklogCountUndoneByNegationWrong : ChangeSpec := { name := "fnBacklogCountUndoneByNegation", fn := fun _ => fun
  | [d1, d2, d3, d4] => { results := [.lit (.bool false)], args := [d1, d2, d3, d4] }
  | _ => none }
def FnBacklogCountUndoneByNegationWrongFalsely : Prop := fnBacklogCountUndoneByNegationRow.holds Try.pinned (OpenSpec.ofChange fnBacklogCountUndoneByNegationWrong)

/-- 'zzlaws_internal_stream_b1.FnBacklogCountOrderFree': WHATEVER THE INPUT: true; the input reads as it did. -/
def fnBacklogCountOrderFreeSpec : ChangeSpec := { name := "fnBacklogCountOrderFree", fn := fun _ => fun
  | [d1, d2] => { results := [.lit (.bool true)], args := [d1, d2] }
  | _ => none }
def fnBacklogCountOrderFreeRow : OpenClaim := { program := "qxb6000923a", sum := "f6c7bbe92a1001f84e9f566f1c10596256d52fd153ae5213feeb6a5e1f44e2e4", func := "example.com/hearsay/hearsay/zzlaws_internal_stream_b1.FnBacklogCountOrderFree", spec := "fnBacklogCountOrderFree", apart := false }
def FnBacklogCountOrderFreeSaid : Prop := fnBacklogCountOrderFreeRow.holds Try.pinned (OpenSpec.ofChange fnBacklogCountOrderFreeSpec)

/-- ITS FALSE NEIGHBOUR: 'it returns false'. Refute it at one input. -/
def fnBacklogCountOrderFreeWrong : ChangeSpec := { name := "fnBacklogCountOrderFree", fn := fun _ => fun
  | [d1, d2] => { results := [.lit (.bool false)], args := [d1, d2] }
  | _ => none }
def FnBacklogCountOrderFreeWrongFalsely : Prop := fnBacklogCountOrderFreeRow.holds Try.pinned (OpenSpec.ofChange fnBacklogCountOrderFreeWrong)

end Rows
end Go.Proofs.Qxb6000923a
