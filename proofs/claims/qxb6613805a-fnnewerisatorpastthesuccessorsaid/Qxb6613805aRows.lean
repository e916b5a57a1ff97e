/-
  No cell of these rows narrows 'for every input' (looked for: loops, veiled, ifaces, maps, wideKeys, modest, calm, conditions, laid).
  DERIVED. THE GIVEN ROWS OF THIS SEAT. 6 by the template 'for every input the law returns true; each argument reads behind the call as it read before'; 0 by the template 'total and deterministic' (their statements: Qxb6613805aTotals.lean).
  GIVEN WITH THE SEED: the statements are not yours to turn. If you find one false, say at which input.
  Laid BY PROGRAM, IN A SANDBOX (cutbox-rows.mjs): the forced cells as the released guide's own fill.sh prints them over the translation 779286bee06433fc… (all of the seat's roots in one cut). By AI agents, Wed Nov 11 2026. No macro, syntax, notation, axiom, sorry.
-/
import Derived.Test.Qxb6613805aChecked
import GoSem.Claim
import GoSem.ClaimJoined
import GoSem.ClaimMapViews
import Derived.JoinedTies
import Derived.KernelRfl
namespace Go.Proofs.Qxb6613805a
/- THE CELL 'sum', in the pinned program and in every row, IS THE sha256 OF THE DUMP (.gsa) THAT Qxb6613805aProg.lean LOADS. Nothing in Lean hashes anything: it is a label: what it is worth is what the hold of that sum in a sandbox is worth. -/
noncomputable def Try.pinned : Pinned := { name := "qxb6613805a", sum := "779286bee06433fc643f300ddcfc2fab8b7800055f60719d3771ad6881b0dc3a", checked := Try.checked }
namespace Rows
def none {H : Type} : Left H := { results := [], args := [] }

/-- 'zzlaws_internal_replica_b1.FnNewerIsStrictTotalOrder': WHATEVER THE INPUT: true; the input reads as it did. -/
def fnNewerIsStrictTotalOrderSpec : ChangeSpec := { name := "fnNewerIsStrictTotalOrder", fn := fun _ => fun
  | [d1, d2, d3, d4] => { results := [.lit (.bool true)], args := [d1, d2, d3, d4] }
  | _ => none }
def fnNewerIsStrictTotalOrderRow : OpenClaim := { program := "qxb6613805a", sum := "779286bee06433fc643f300ddcfc2fab8b7800055f60719d3771ad6881b0dc3a", func := "example.com/fanfold/fanfold/zzlaws_internal_replica_b1.FnNewerIsStrictTotalOrder", spec := "fnNewerIsStrictTotalOrder", apart := false }
def FnNewerIsStrictTotalOrderSaid : Prop := fnNewerIsStrictTotalOrderRow.holds Try.pinned (OpenSpec.ofChange fnNewerIsStrictTotalOrderSpec)

/-- ITS FALSE NEIGHBOUR: 'it returns false'. Refute it at one input. -/
def fnNewerIsStrictTotalOrderWrong : ChangeSpec := { name := "fnNewerIsStrictTotalOrder", fn := fun _ => fun
  | [d1, d2, d3, d4] => { results := [.lit (.bool false)], args := [d1, d2, d3, d4] }
  | _ => none }
def FnNewerIsStrictTotalOrderWrongFalsely : Prop := fnNewerIsStrictTotalOrderRow.holds Try.pinned (OpenSpec.ofChange fnNewerIsStrictTotalOrderWrong)

/-- 'zzlaws_internal_replica_b1.FnNewerIsAtOrPastTheSuccessor': WHATEVER THE INPUT: true; the input reads as it did. -/
def fnNewerIsAtOrPastTheSuccessorSpec : ChangeSpec := { name := "fnNewerIsAtOrPastTheSuccessor", fn := fun _ => fun
  | [d1, d2, d3, d4] => { results := [.lit (.bool true)], args := [d1, d2, d3, d4] }
  | _ => none }
def fnNewerIsAtOrPastTheSuccessorRow : OpenClaim := { program := "qxb6613805a", sum := "779286bee06433fc643f300ddcfc2fab8b7800055f60719d3771ad6881b0dc3a", func := "example.com/fanfold/fanfold/zzlaws_internal_replica_b1.FnNewerIsAtOrPastTheSuccessor", spec := "fnNewerIsAtOrPastTheSuccessor", apart := false }
def FnNewerIsAtOrPastTheSuccessorSaid : Prop := fnNewerIsAtOrPastTheSuccessorRow.holds Try.pinned (OpenSpec.ofChange fnNewerIsAtOrPastTheSuccessorSpec)

/-- ITS FALSE NEIGHBOUR: 'it returns false'. Refute it at one input. -/
def fnNewerIsAtOrPastTheSuccessorWrong : ChangeSpec := { name := "fnNewerIsAtOrPastTheSuccessor", fn := fun _ => fun
  | [d1, d2, d3, d4] => { results := [.lit (.bool false)], args := [d1, d2, d3, d4] }
  | _ => none }
def FnNewerIsAtOrPastTheSuccessorWrongFalsely : Prop := fnNewerIsAtOrPastTheSuccessorRow.holds Try.pinned (OpenSpec.ofChange fnNewerIsAtOrPastTheSuccessorWrong)

/-- 'zzlaws_internal_replica_b1.FnLedgerDigestSumMidwayLeavesLedgerOpen': WHATEVER THE INPUT: true; the input reads as it did. -/
def fnLedgerDigestSumMidwayLeavesLedgerOpenSpec : ChangeSpec := { name := "fnLedgerDigestSumMidwayLeavesLedgerOpen", fn := fun _ => fun
  | [d1, d2] => { results := [.lit (.bool true)], args := [d1, d2] }
  | _ => none }
def fnLedgerDigestSumMidwayLeavesLedgerOpenRow : OpenClaim := { program := "qxb6613805a", sum := "779286bee06433fc643f300ddcfc2fab8b7800055f60719d3771ad6881b0dc3a", func := "example.com/fanfold/fanfold/zzlaws_internal_replica_b1.FnLedgerDigestSumMidwayLeavesLedgerOpen", spec := "fnLedgerDigestSumMidwayLeavesLedgerOpen", unfollowed := true, recurses := true, apart := false }
def FnLedgerDigestSumMidwayLeavesLedgerOpenSaid : Prop := fnLedgerDigestSumMidwayLeavesLedgerOpenRow.holds Try.pinned (OpenSpec.ofChange fnLedgerDigestSumMidwayLeavesLedgerOpenSpec)

/-- ITS FALSE NEIGHBOUR: 'it returns false'. Refute it at one input. -/
def fnLedgerDigestSumMidwayLeavesLedgerOpenWrong : ChangeSpec := { name := "fnLedgerDigestSumMidwayLeavesLedgerOpen", fn := fun _ => fun
  | [d1, d2] => { results := [.lit (.bool false)], args := [d1, d2] }
  | _ => none }
def FnLedgerDigestSumMidwayLeavesLedgerOpenWrongFalsely : Prop := fnLedgerDigestSumMidwayLeavesLedgerOpenRow.holds Try.pinned (OpenSpec.ofChange fnLedgerDigestSumMidwayLeavesLedgerOpenWrong)

/-- 'zzlaws_internal_replica_b1.FnLedgerDigestSumIgnoresTxBoundaries': WHATEVER THE INPUT: true; the input reads as it did. -/
def fnLedgerDigestSumIgnoresTxBoundariesSpec : ChangeSpec := { name := "fnLedgerDigestSumIgnoresTxBoundaries", fn := fun _ => fun
  | [d] => { results := [.lit (.bool true)], args := [d] }
  | _ => none }
def fnLedgerDigestSumIgnoresTxBoundariesRow : OpenClaim := { program := "qxb6613805a", sum := "779286bee06433fc643f300ddcfc2fab8b7800055f60719d3771ad6881b0dc3a", func := "example.com/fanfold/fanfold/zzlaws_internal_replica_b1.FnLedgerDigestSumIgnoresTxBoundaries", spec := "fnLedgerDigestSumIgnoresTxBoundaries", unfollowed := true, recurses := true, apart := false }
def FnLedgerDigestSumIgnoresTxBoundariesSaid : Prop := fnLedgerDigestSumIgnoresTxBoundariesRow.holds Try.pinned (OpenSpec.ofChange fnLedgerDigestSumIgnoresTxBoundariesSpec)

/-- ITS FALSE NEIGHBOUR: 'it returns false'. Refute it at one input. -/
def fnLedgerDigestSumIgnoresTxBoundariesWrong : ChangeSpec := { name := "fnLedgerDigestSumIgnoresTxBoundaries", fn := fun _ => fun
  | [d] => { results := [.lit (.bool false)], args := [d] }
  | _ => none }
def FnLedgerDigestSumIgnoresTxBoundariesWrongFalsely : Prop := fnLedgerDigestSumIgnoresTxBoundariesRow.holds Try.pinned (OpenSpec.ofChange fnLedgerDigestSumIgnoresTxBoundariesWrong)

/-- 'zzlaws_internal_replica_b1.FnLedgerDigestCloneGoesOnApart': WHATEVER THE INPUT: true; the input reads as it did. -/
def fnLedgerDigestCloneGoesOnApartSpec : ChangeSpec := { name := "fnLedgerDigestCloneGoesOnApart", fn := fun _ => fun
  | [d1, d2, d3] => { results := [.lit (.bool true)], args := [d1, d2, d3] }
  | _ => none }
def fnLedgerDigestCloneGoesOnApartRow : OpenClaim := { program := "qxb6613805a", sum := "779286bee06433fc643f300ddcfc2fab8b7800055f60719d3771ad6881b0dc3a", func := "example.com/fanfold/fanfold/zzlaws_internal_replica_b1.FnLedgerDigestCloneGoesOnApart", spec := "fnLedgerDigestCloneGoesOnApart", unfollowed := true, recurses := true, apart := false }
def FnLedgerDigestCloneGoesOnApartSaid : Prop := fnLedgerDigestCloneGoesOnApartRow.holds Try.pinned (OpenSpec.ofChange fnLedgerDigestCloneGoesOnApartSpec)

/-- ITS FALSE NEIGHBOUR: 'it returns false'. Refute it at one input. -/
def fnLedgerDigestCloneGoesOnApartWrong : ChangeSpec := { name := "fnLedgerDigestCloneGoesOnApart", fn := fun _ => fun
  | [d1, d2, d3] => { results := [.lit (.bool false)], args := [d1, d2, d3] }
  | _ => none }
def FnLedgerDigestCloneGoesOnApartWrongFalsely : Prop := fnLedgerDigestCloneGoesOnApartRow.holds Try.pinned (OpenSpec.ofChange fnLedgerDigestCloneGoesOnApartWrong)

/-- 'zzlaws_internal_replica_b1.FnLedgerDigestCloneStandsWhereOriginalStands': WHATEVER THE INPUT: true; the input reads as it did. -/
def fnLedgerDigestCloneStandsWhereOriginalStandsSpec : ChangeSpec := { name := "fnLedgerDigestCloneStandsWhereOriginalStands", fn := fun _ => fun
  | [d1, d2] => { results := [.lit (.bool true)], args := [d1, d2] }
  | _ => none }
def fnLedgerDigestCloneStandsWhereOriginalStandsRow : OpenClaim := { program := "qxb6613805a", sum := "779286bee06433fc643f300ddcfc2fab8b7800055f60719d3771ad6881b0dc3a", func := "example.com/fanfold/fanfold/zzlaws_internal_replica_b1.FnLedgerDigestCloneStandsWhereOriginalStands", spec := "fnLedgerDigestCloneStandsWhereOriginalStands", unfollowed := true, recurses := true, apart := false }
def FnLedgerDigestCloneStandsWhereOriginalStandsSaid : Prop := fnLedgerDigestCloneStandsWhereOriginalStandsRow.holds Try.pinned (OpenSpec.ofChange fnLedgerDigestCloneStandsWhereOriginalStandsSpec)

/-- ITS FALSE NEIGHBOUR: 'it returns false'. Refute it at one input. -/
def fnLedgerDigestCloneStandsWhereOriginalStandsWrong : ChangeSpec := { name := "fnLedgerDigestCloneStandsWhereOriginalStands", fn := fun _ => fun
  | [d1, d2] => { results := [.lit (.bool false)], args := [d1, d2] }
  | _ => none }
def FnLedgerDigestCloneStandsWhereOriginalStandsWrongFalsely : Prop := fnLedgerDigestCloneStandsWhereOriginalStandsRow.holds Try.pinned (OpenSpec.ofChange fnLedgerDigestCloneStandsWhereOriginalStandsWrong)

end Rows
end Go.Proofs.Qxb6613805a
