/-
  NARROWER THAN 'FOR EVERY INPUT', by the rows' own cells (each row's printed sentence says how): FnRegisterScriptMatchesFirstComeSortedModel: ifaces, laid · FnRegisterOrderFreeAscendingDistinct: ifaces, laid.
  DERIVED. THE GIVEN ROWS OF THIS SEAT. 2 by the template 'for every input the law returns true; each argument reads behind the call as it read before'; 0 by the template 'total and deterministic' (their statements: Qxb6613043aDoorTotals.lean).
  GIVEN WITH THE SEED: the statements are not yours to turn. If you find one false, say at which input.
  Laid BY PROGRAM, IN A SANDBOX (cutbox-rows.mjs): the forced cells as the released guide's own fill.sh prints them over the translation c121fce0345f3ff1… (all of the seat's roots in one cut). By AI agents, Wed Nov 11 2026. No macro, syntax, notation, axiom, sorry.
-/
import Derived.Test.Qxb6613043aDoorChecked
import GoSem.Claim
import GoSem.ClaimJoined
import GoSem.ClaimMapViews
import Derived.JoinedTies
import Derived.KernelRfl
namespace Go.Proofs.Qxb6613043aDoor
/- THE CELL 'sum', in the pinned program and in every row, IS THE sha256 OF THE DUMP (.gsa) THAT Qxb6613043aDoorProg.lean LOADS. Nothing in Lean hashes anything: it is a label: what it is worth is what the hold of that sum in a sandbox is worth. -/
noncomputable def Tryd.pinned : Pinned := { name := "qxb6613043adoor", sum := "c121fce0345f3ff121bd12bee7669a5d59a41698b264bc49cbb089ad69c44bb8", checked := Tryd.checked }
namespace Rows
def none {H : Type} : Left H := { results := [], args := [] }

/- WHAT THE LISTED PACKAGE-LEVEL VARIABLES READ AS WHEN THE CALL BEGINS. Each datum BY PROGRAM (the guide's laid-datum.mjs) off the statement by which the dump's own 'gosem.cut.vars' lays the variable. In a bare row this is a premise. The card (Qxb6613043aDoorCards.lean) ties it to the program's text. -/
def laid_example_com_tailmark_tailmark_ErrName {H : Type} : DataW H := .iface "*errors.errorString" (.ptr (.agg [.lit (.string [105, 110, 118, 97, 108, 105, 100, 32, 109, 101, 116, 114, 105, 99, 32, 110, 97, 109, 101])]))
def laid_example_com_tailmark_tailmark_ErrNameTaken {H : Type} : DataW H := .iface "*errors.errorString" (.ptr (.agg [.lit (.string [109, 101, 116, 114, 105, 99, 32, 110, 97, 109, 101, 32, 97, 108, 114, 101, 97, 100, 121, 32, 114, 101, 103, 105, 115, 116, 101, 114, 101, 100])]))

/-- 'zzlaws_root_b1.FnRegisterScriptMatchesFirstComeSortedModel': WHATEVER THE INPUT: true; the input reads as it did. -/
def fnRegisterScriptMatchesFirstComeSortedModelSpec : ChangeSpec := { name := "fnRegisterScriptMatchesFirstComeSortedModel", vars := ["example.com/tailmark/tailmark.ErrName", "example.com/tailmark/tailmark.ErrNameTaken"], fn := fun _ => fun
  | [d1, d2, g1, g2] => { results := [.lit (.bool true)], args := [d1, d2], vars := [g1, g2] }
  | _ => none }
def fnRegisterScriptMatchesFirstComeSortedModelRow : OpenClaim := { program := "qxb6613043adoor", sum := "c121fce0345f3ff121bd12bee7669a5d59a41698b264bc49cbb089ad69c44bb8", func := "example.com/tailmark/tailmark/zzlaws_root_b1.FnRegisterScriptMatchesFirstComeSortedModel", spec := "fnRegisterScriptMatchesFirstComeSortedModel", inPlace := ["(*internal/sync.Mutex).Lock", "internal/race.Disable", "sync/atomic.CompareAndSwapInt32", "internal/race.Enable", "internal/race.Acquire", "(*internal/sync.Mutex).lockSlow", "internal/sync.runtime_canSpin", "internal/sync.runtime_doSpin", "internal/sync.throw", "internal/sync.runtime_nanotime", "internal/sync.runtime_SemacquireMutex", "sync/atomic.AddInt32", "(*internal/sync.Mutex).Unlock", "internal/race.ReleaseMerge", "(*internal/sync.Mutex).unlockSlow", "internal/sync.fatal", "internal/sync.runtime_Semrelease", "internal/bytealg.abigen_runtime_cmpstring", "slices.overlaps[*example.com/tailmark/tailmark.entry]"], unfollowed := true, recurses := true, named := ["example.com/tailmark/tailmark.ErrName", "example.com/tailmark/tailmark.ErrNameTaken"], ifaces := true, apart := false, laid := [("example.com/tailmark/tailmark.ErrName", laid_example_com_tailmark_tailmark_ErrName), ("example.com/tailmark/tailmark.ErrNameTaken", laid_example_com_tailmark_tailmark_ErrNameTaken)] }
def FnRegisterScriptMatchesFirstComeSortedModelSaid : Prop := fnRegisterScriptMatchesFirstComeSortedModelRow.holds Tryd.pinned (OpenSpec.ofChange fnRegisterScriptMatchesFirstComeSortedModelSpec)

/-- ITS FALSE NEIGHBOUR: 'it returns false'. Refute it at one input. -/
def fnRegisterScriptMatchesFirstComeSortedModelWrong : ChangeSpec := { name := "fnRegisterScriptMatchesFirstComeSortedModel", vars := ["example.com/tailmark/tailmark.ErrName", "example.com/tailmark/tailmark.ErrNameTaken"], fn := fun _ => fun
  | [d1, d2, g1, g2] => { results := [.lit (.bool false)], args := [d1, d2], vars := [g1, g2] }
  | _ => none }
def FnRegisterScriptMatchesFirstComeSortedModelWrongFalsely : Prop := fnRegisterScriptMatchesFirstComeSortedModelRow.holds Tryd.pinned (OpenSpec.ofChange fnRegisterScriptMatchesFirstComeSortedModelWrong)

/-- 'zzlaws_root_b1.FnRegisterOrderFreeAscendingDistinct': WHATEVER THE INPUT: true; the input reads as it did. -/
def fnRegisterOrderFreeAscendingDistinctSpec : ChangeSpec := { name := "fnRegisterOrderFreeAscendingDistinct", vars := ["example.com/tailmark/tailmark.ErrName", "example.com/tailmark/tailmark.ErrNameTaken"], fn := fun _ => fun
  | [d, g1, g2] => { results := [.lit (.bool true)], args := [d], vars := [g1, g2] }
  | _ => none }
def fnRegisterOrderFreeAscendingDistinctRow : OpenClaim := { program := "qxb6613043adoor", sum := "c121fce0345f3ff121bd12bee7669a5d59a41698b264bc49cbb089ad69c44bb8", func := "example.com/tailmark/tailmark/zzlaws_root_b1.FnRegisterOrderFreeAscendingDistinct", spec := "fnRegisterOrderFreeAscendingDistinct", inPlace := ["(*internal/sync.Mutex).Lock", "internal/race.Disable", "sync/atomic.CompareAndSwapInt32", "internal/race.Enable", "internal/race.Acquire", "(*internal/sync.Mutex).lockSlow", "internal/sync.runtime_canSpin", "internal/sync.runtime_doSpin", "internal/sync.throw", "internal/sync.runtime_nanotime", "internal/sync.runtime_SemacquireMutex", "sync/atomic.AddInt32", "(*internal/sync.Mutex).Unlock", "internal/race.ReleaseMerge", "(*internal/sync.Mutex).unlockSlow", "internal/sync.fatal", "internal/sync.runtime_Semrelease", "internal/bytealg.abigen_runtime_cmpstring", "slices.overlaps[*example.com/tailmark/tailmark.entry]"], unfollowed := true, recurses := true, named := ["example.com/tailmark/tailmark.ErrName", "example.com/tailmark/tailmark.ErrNameTaken"], ifaces := true, apart := false, laid := [("example.com/tailmark/tailmark.ErrName", laid_example_com_tailmark_tailmark_ErrName), ("example.com/tailmark/tailmark.ErrNameTaken", laid_example_com_tailmark_tailmark_ErrNameTaken)] }
def FnRegisterOrderFreeAscendingDistinctSaid : Prop := fnRegisterOrderFreeAscendingDistinctRow.holds Tryd.pinned (OpenSpec.ofChange fnRegisterOrderFreeAscendingDistinctSpec)

/-- ITS FALSE NEIGHBOUR: 'it returns false'. Refute it at one input. -/
def fnRegisterOrderFreeAscendingDistinctWrong : ChangeSpec := { name := "fnRegisterOrderFreeAscendingDistinct", vars := ["example.com/tailmark/tailmark.ErrName", "example.com/tailmark/tailmark.ErrNameTaken"], fn := fun _ => fun
  | [d, g1, g2] => { results := [.lit (.bool false)], args := [d], vars := [g1, g2] }
  | _ => none }
def FnRegisterOrderFreeAscendingDistinctWrongFalsely : Prop := fnRegisterOrderFreeAscendingDistinctRow.holds Tryd.pinned (OpenSpec.ofChange fnRegisterOrderFreeAscendingDistinctWrong)

end Rows
end Go.Proofs.Qxb6613043aDoor
