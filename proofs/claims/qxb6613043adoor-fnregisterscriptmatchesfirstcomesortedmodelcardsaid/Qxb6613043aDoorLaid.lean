/-
  Seat b6613043aD: what the rows' condition on the two sentinels gives; a start that meets it; the names that came in, opened.
-/
import Derived.Test.Qxb6613043aDoorBytes
import Derived.Test.Qxb6613043aDoorTie
import Derived.ProofKit
import Derived.ChangeSame
import Derived.ChangeVars
import Derived.JoinedOf
import Derived.RowKitTokens
import Derived.LaidLaws
import Derived.LaidMore
import Derived.OpenShut
import Derived.ShutString
import Derived.ChangeOld
import Derived.Stop.ErrReads
import Derived.Stop.Joined
import Derived.SliceStrings
namespace Go.Proofs.Qxb6613043aDoor
open Go.ChangeShapes Go.WideShapes Go.ChangeAt Go.RowKit

theorem own : ownKnob Tryd.prog.godebug = none := by kernel_rfl
theorem laidOut : laidOutB Tryd.prog = true := by kernel_rfl
/-- the two variables' names, as the rows list them -/
def nErr : String := Rows.fnRegisterOrderFreeAscendingDistinctSpec.vars.getD 0 ""
def nTaken : String := Rows.fnRegisterOrderFreeAscendingDistinctSpec.vars.getD 1 ""
def laid2 : List (String × DataW Unit) := Rows.fnRegisterOrderFreeAscendingDistinctRow.laid
theorem gErr : Tryd.prog.globalNamed nErr = some 0 := by kernel_rfl
theorem gTaken : Tryd.prog.globalNamed nTaken = some 1 := by kernel_rfl
theorem tErr : (Tryd.prog.globals[0]?).map (·.type) = some 27 := by kernel_rfl
theorem tTaken : (Tryd.prog.globals[1]?).map (·.type) = some 27 := by kernel_rfl
theorem cells9 : Tryd.prog.cellsOf 9 = 1 := by kernel_rfl

/-- what the condition gives: both variables hold some error -/
theorem sentinels {W : World} (h : laidMetH Tryd.prog laid2 W) : ∃ u0 v0 u1 v1, W.var? Tryd.prog nErr = some #[.iface u0 v0] ∧ W.var? Tryd.prog nTaken = some #[.iface u1 v1] := by
  rw [MakeChecks.laidMetH_plain _ _ _ (by kernel_rfl)] at h
  obtain ⟨ps, ⟨g0, t0, cs0, f0, p0, q0, hg0, ht0, hv0, hd0, ⟨g1, t1, cs1, f1, p1, q1, hg1, ht1, hv1, hd1, _, _⟩, _⟩, _, _⟩ := h
  obtain rfl := Option.some.inj (gErr.symm.trans hg0)
  obtain rfl := Option.some.inj (gTaken.symm.trans hg1)
  obtain rfl := Option.some.inj (tErr.symm.trans ht0)
  obtain rfl := Option.some.inj (tTaken.symm.trans ht1)
  obtain ⟨l0⟩ := cs0
  obtain ⟨l1⟩ := cs1
  obtain ⟨_, u0, v0, rfl, _, _⟩ := iface_of_trod Tryd.underlying27 hd0
  obtain ⟨_, u1, v1, rfl, _, _⟩ := iface_of_trod Tryd.underlying27 hd1
  exact ⟨u0, v0, u1, v1, hv0, hv1⟩

/-- the door's own heap meets the condition -/
theorem door_met (os : Os) (args : Array Value) : laidMetH Tryd.prog laid2 ((World.doorLaid Tryd.prog 400 os).forCall (fun _ _ => 0) ⟨#[], args, []⟩).memory :=
  laidMetH_of_parts3 (fuel := 8) (laidMet_of_run' 8 (by kernel_rfl) (by kernel_rfl)) (by kernel_rfl) (by kernel_rfl)

theorem vars_read {H : Type} (enc : TypeId × Value → H) {W : World} {x0 x1 : Value} (h0 : W.var? Tryd.prog nErr = some #[x0]) (h1 : W.var? Tryd.prog nTaken = some #[x1]) (i0 : IsIface x0) (i1 : IsIface x1) (sp : Nat → Bool) :
    DataW.TrodVars enc Tryd.prog W sp [nErr, nTaken] [tok enc x0, tok enc x1] [.cell 0 0, .cell 1 0] :=
  ⟨0, 27, #[x0], 1, [], [.cell 1 0], gErr, tErr, h0, trod_held Tryd.underlying27 i0 0, ⟨1, 27, #[x1], 1, [], [], gTaken, tTaken, h1, trod_held Tryd.underlying27 i1 0, rfl, rfl⟩, rfl⟩

/-- a []string that came in, opened for the walk -/
theorem open_names {H : Type} {enc : TypeId × Value → H} {W : World} {a : Option Addr} {len cap : Nat} {d : DataW H} {p : List MemPlace}
    (h : DataW.Trod enc Tryd.prog W 0 (fun _ => true) true 22 (.slice a len cap) d p) : ∃ nm, IsStr W a len nm := by
  obtain ⟨fuel, hf⟩ := h
  rcases open_strings Tryd.underlying22 Tryd.underlying9 cells9 hf with ⟨hcs, _⟩ | ⟨x, l, c, ss, hcs, _, hlc, _, hsl, _, hcell, hws⟩
  · simp [Value.cells] at hcs
    obtain ⟨rfl, rfl, rfl⟩ := hcs
    exact ⟨fun _ => ByteArray.empty, fun h => absurd h (by omega)⟩
  · simp [Value.cells] at hcs
    obtain ⟨rfl, rfl, rfl⟩ := hcs
    simp at hsl
    refine ⟨fun i => ss.getD i ByteArray.empty, fun hpos => ?_⟩
    have h0 := hcell 0 (by omega)
    obtain ⟨_, _, _, _, hsp⟩ := World.shape?_of_cell? h0
    have hsp' : x.spot = none := by simpa [Addr.add] using hsp
    obtain ⟨xb, xo, xs⟩ := x
    simp at hsp'
    subst hsp'
    refine ⟨xb, xo, rfl, ?_, fun i hi => ⟨?_, ?_⟩⟩
    · have := World.block_lt_of_cell? W _ h0
      simpa [Addr.add] using this
    · have := hcell i (by omega)
      rwa [Addr.add_lit] at this
    · have hi' : i < ss.length := by omega
      have e : ss.getD i ByteArray.empty = ss[i] := by simp [List.getD, List.getElem?_eq_getElem hi']
      show (ss.getD i ByteArray.empty).size ≤ 9223372036854775807
      rw [e]
      have := hws ss[i] (List.getElem_mem hi')
      unfold maxLen at this
      omega
end Go.Proofs.Qxb6613043aDoor
