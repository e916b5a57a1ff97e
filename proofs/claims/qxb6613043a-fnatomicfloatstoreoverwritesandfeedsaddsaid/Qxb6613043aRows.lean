/-
  No cell of these rows narrows 'for every input' (looked for: loops, veiled, ifaces, maps, wideKeys, modest, calm, conditions, laid).
  DERIVED. THE GIVEN ROWS OF THIS SEAT. 3 by the template 'for every input the law returns true; each argument reads behind the call as it read before'; 0 by the template 'total and deterministic' (their statements: Qxb6613043aTotals.lean).
  GIVEN WITH THE SEED: the statements are not yours to turn. If you find one false, say at which input.
  Laid BY PROGRAM, IN A SANDBOX (cutbox-rows.mjs): the forced cells as the released guide's own fill.sh prints them over the translation 28251b22d9efbb99… (all of the seat's roots in one cut). By AI agents, Wed Nov 11 2026. No macro, syntax, notation, axiom, sorry.
-/
import Derived.Test.Qxb6613043aChecked
import GoSem.Claim
import GoSem.ClaimJoined
import GoSem.ClaimMapViews
import Derived.JoinedTies
import Derived.KernelRfl
namespace Go.Proofs.Qxb6613043a
/- THE CELL 'sum', in the pinned program and in every row, IS THE sha256 OF THE DUMP (.gsa) THAT Qxb6613043aProg.lean LOADS. Nothing in Lean hashes anything: it is a label: what it is worth is what the hold of that sum in a sandbox is worth. -/
noncomputable def Try.pinned : Pinned := { name := "qxb6613043a", sum := "28251b22d9efbb99f4d8cf1c6823a882106521621e516e27692f372ef32e21d2", checked := Try.checked }
namespace Rows
def none {H : Type} : Left H := { results := [], args := [] }

/-- 'zzlaws_root_b1.FnAtomicFloatStoreLoadRoundTrip': WHATEVER THE INPUT: true; the input reads as it did. -/
def fnAtomicFloatStoreLoadRoundTripSpec : ChangeSpec := { name := "fnAtomicFloatStoreLoadRoundTrip", fn := fun _ => fun
  | [d] => { results := [.lit (.bool true)], args := [d] }
  | _ => none }
def fnAtomicFloatStoreLoadRoundTripRow : OpenClaim := { program := "qxb6613043a", sum := "28251b22d9efbb99f4d8cf1c6823a882106521621e516e27692f372ef32e21d2", func := "example.com/tailmark/tailmark/zzlaws_root_b1.FnAtomicFloatStoreLoadRoundTrip", spec := "fnAtomicFloatStoreLoadRoundTrip", inPlace := ["math.Float64bits", "sync/atomic.StoreUint64", "sync/atomic.LoadUint64", "math.Float64frombits"], apart := false }
def FnAtomicFloatStoreLoadRoundTripSaid : Prop := fnAtomicFloatStoreLoadRoundTripRow.holds Try.pinned (OpenSpec.ofChange fnAtomicFloatStoreLoadRoundTripSpec)

/-- ITS FALSE NEIGHBOUR: 'it returns false'. Refute it at one input. -/
def fnAtomicFloatStoreLoadRoundTripWrong : ChangeSpec := { name := "fnAtomicFloatStoreLoadRoundTrip", fn := fun _ => fun
  | [d] => { results := [.lit (.bool false)], args := [d] }
  | _ => none }
def FnAtomicFloatStoreLoadRoundTripWrongFalsely : Prop := fnAtomicFloatStoreLoadRoundTripRow.holds Try.pinned (OpenSpec.ofChange fnAtomicFloatStoreLoadRoundTripWrong)

/-- 'zzlaws_root_b1.FnAtomicFloatStoreOverwritesAndFeedsAdd': WHATEVER THE INPUT: true; the input reads as it did. -/
def fnAtomicFloatStoreOverwritesAndFeedsAddSpec : ChangeSpec := { name := "fnAtomicFloatStoreOverwritesAndFeedsAdd", fn := fun _ => fun
  | [d1, d2, d3] => { results := [.lit (.bool true)], args := [d1, d2, d3] }
  | _ => none }
def fnAtomicFloatStoreOverwritesAndFeedsAddRow : OpenClaim := { program := "qxb6613043a", sum := "28251b22d9efbb99f4d8cf1c6823a882106521621e516e27692f372ef32e21d2", func := "example.com/tailmark/tailmark/zzlaws_root_b1.FnAtomicFloatStoreOverwritesAndFeedsAdd", spec := "fnAtomicFloatStoreOverwritesAndFeedsAdd", inPlace := ["sync/atomic.LoadUint64", "math.Float64frombits", "math.Float64bits", "sync/atomic.CompareAndSwapUint64", "sync/atomic.StoreUint64"], apart := false }
def FnAtomicFloatStoreOverwritesAndFeedsAddSaid : Prop := fnAtomicFloatStoreOverwritesAndFeedsAddRow.holds Try.pinned (OpenSpec.ofChange fnAtomicFloatStoreOverwritesAndFeedsAddSpec)

/-- ITS FALSE NEIGHBOUR: 'it returns false'. Refute it at one input. -/
def fnAtomicFloatStoreOverwritesAndFeedsAddWrong : ChangeSpec := { name := "fnAtomicFloatStoreOverwritesAndFeedsAdd", fn := fun _ => fun
  | [d1, d2, d3] => { results := [.lit (.bool false)], args := [d1, d2, d3] }
  | _ => none }
def FnAtomicFloatStoreOverwritesAndFeedsAddWrongFalsely : Prop := fnAtomicFloatStoreOverwritesAndFeedsAddRow.holds Try.pinned (OpenSpec.ofChange fnAtomicFloatStoreOverwritesAndFeedsAddWrong)

/-- 'zzlaws_root_b1.FnGaugeSubSignSymmetric': WHATEVER THE INPUT: true; the input reads as it did. -/
def fnGaugeSubSignSymmetricSpec : ChangeSpec := { name := "fnGaugeSubSignSymmetric", fn := fun _ => fun
  | [d1, d2] => { results := [.lit (.bool true)], args := [d1, d2] }
  | _ => none }
def fnGaugeSubSignSymmetricRow : OpenClaim := { program := "qxb6613043a", sum := "28251b22d9efbb99f4d8cf1c6823a882106521621e516e27692f372ef32e21d2", func := "example.com/tailmark/tailmark/zzlaws_root_b1.FnGaugeSubSignSymmetric", spec := "fnGaugeSubSignSymmetric", inPlace := ["math.Float64bits", "sync/atomic.StoreUint64", "sync/atomic.LoadUint64", "math.Float64frombits", "sync/atomic.CompareAndSwapUint64"], apart := false }
def FnGaugeSubSignSymmetricSaid : Prop := fnGaugeSubSignSymmetricRow.holds Try.pinned (OpenSpec.ofChange fnGaugeSubSignSymmetricSpec)

/-- ITS FALSE NEIGHBOUR: 'it returns false'. Refute it at one input. -/
def fnGaugeSubSignSymmetricWrong : ChangeSpec := { name := "fnGaugeSubSignSymmetric", fn := fun _ => fun
  | [d1, d2] => { results := [.lit (.bool false)], args := [d1, d2] }
  | _ => none }
def FnGaugeSubSignSymmetricWrongFalsely : Prop := fnGaugeSubSignSymmetricRow.holds Try.pinned (OpenSpec.ofChange fnGaugeSubSignSymmetricWrong)

end Rows
end Go.Proofs.Qxb6613043a
