/-
  Seat b6613043aD: the row of FnRegisterScriptMatchesFirstComeSortedModel, and its tied card.
-/
import Derived.Test.Qxb6613043aDoorScript
import Derived.Test.Qxb6613043aDoorLaid
import Derived.Test.Qxb6613043aDoorCards
import Derived.SevenTiedAt
namespace Go.Proofs.Qxb6613043aDoor.fnRegisterScriptMatchesFirstComeSortedModel
open Go.ChangeShapes Go.WideShapes Go.ChangeAt Go.RowKit

set_option maxRecDepth 100000 in
theorem lifted (os : Os) (started : os.Started) (H : Type) (enc : TypeId × Value → H) :
    ReturnsInHanded {} Tryd.checked os 3 .any (fun w args => (Rows.fnRegisterScriptMatchesFirstComeSortedModelSpec.pre enc Tryd.prog Tryd.f3 [] false w args ∧ laidMetH Tryd.prog laid2 w) ∧ sizedMet enc Tryd.prog Tryd.f3 (OpenSpec.ofChange Rows.fnRegisterScriptMatchesFirstComeSortedModelSpec) false w args)
      (Rows.fnRegisterScriptMatchesFirstComeSortedModelSpec.post enc Tryd.prog Tryd.f3 false true false false) := by
  refine returnsInHanded_of_change_and (C := Tryd.checked) (X := fun w _ => laidMetH Tryd.prog laid2 w) (fun _ _ _ hh h => h.of_heap hh) own started (by kernel_rfl) Tryd.func3
    (ChangeSpec.witness_shaped (enc := enc) (C := Tryd.checked) (os := os) (X := fun w _ => laidMetH Tryd.prog laid2 w) false (World.doorLaid Tryd.prog 400 os) #[.slice none 0 0, .slice none 0 0] 8 rfl (World.shaped_of_RefB (by kernel_rfl) (by kernel_rfl)) (by kernel_rfl) (by kernel_rfl) (by kernel_rfl) (door_met os _)) ?_
  intro W base args ds gs before hval0 hW _ _ hL _
  have hval : ∀ (j : Nat) t v, Tryd.f3.params[j]? = some t → args[j]? = some v → Value.okWide Tryd.prog W .any base t v := hval0
  have hW' := hW
  obtain ⟨p, q, hA0, hV0, rfl, hfz, hnd⟩ := hW
  have hA : DataW.TrodAll enc Tryd.prog W 0 (fun _ => true) true Tryd.f3.params.toList args.toList ds p := hA0
  have hV : DataW.TrodVars enc Tryd.prog W (fun _ => true) [nErr, nTaken] gs q := hV0
  rw [Tryd.params3] at hA hval
  obtain ⟨v0, v1, d0, d1, p0, p1, hargs, rfl, rfl, h0, h1⟩ := trodAll_two hA
  obtain rfl : args = #[v0, v1] := by cases args; simp_all
  obtain ⟨a0, len0, cap0, rfl⟩ := okWide_slice Tryd.underlying22 (hval 0 22 v0 rfl rfl)
  obtain ⟨a1, len1, cap1, rfl⟩ := okWide_slice Tryd.underlying22 (hval 1 22 v1 rfl rfl)
  have k0 := h0
  have k1 := h1
  have lt0 : ∀ x ∈ p0, x.block < W.heap.size := by obtain ⟨m, hm⟩ := k0; exact DataW.trod_lt m _ _ _ hm
  have lt1 : ∀ x ∈ p1, x.block < W.heap.size := by obtain ⟨m, hm⟩ := k1; exact DataW.trod_lt m _ _ _ hm
  obtain ⟨nm, hnm⟩ := open_names h0
  obtain ⟨nm2, hnm2⟩ := open_names h1
  obtain ⟨u0, x0, u1, x1, hv0, hv1⟩ := sentinels hL
  obtain ⟨rfl, rfl⟩ := hV.unique (vars_read enc hv0 hv1 trivial trivial _)
  clear hA0 hV0 hval0
  have hg0 : W.cell? ⟨0, 0, none⟩ = some (.iface u0 x0) := by simpa using World.var?_cell gErr hv0 0
  have hg1 : W.cell? ⟨1, 0, none⟩ = some (.iface u1 x1) := by simpa using World.var?_cell gTaken hv1 0
  have hlt1 : 1 < W.heap.size := World.block_lt_of_cell? W _ hg1
  refine (script_walk a0 a1 len0 cap0 len1 cap1 nm nm2 W hnm hnm2 u0 u1 x0 x1 hg0 hg1).mono fun e W' ⟨he, bel⟩ => ?_
  subst he
  exact ⟨_, rfl, _, _, _, [], _, [.cell 0 0, .cell 1 0], hW', trodAll_mk1 (shut_bool Tryd.underlying4 _),
    trodAll_mk2 (Below.trod laidOut (by kernel_rfl) (of_decide_eq_true (by kernel_rfl)) k0 bel lt0) (Below.trod laidOut (by kernel_rfl) (of_decide_eq_true (by kernel_rfl)) k1 bel lt1),
    vars_read enc (var?_below bel gErr (by omega) hv0) (var?_below bel gTaken hlt1 hv1) trivial trivial _, bel.frame _, fun h => by cases h⟩

theorem row_holds : Rows.FnRegisterScriptMatchesFirstComeSortedModelSaid :=
  OpenClaim.holds_of_wide 3 Tryd.f3 rfl rfl rfl rfl rfl rfl rfl ⟨rfl, rfl, rfl, rfl, rfl⟩ rfl rfl rfl rfl rfl (by kernel_rfl) Tryd.func3 (by kernel_rfl)
    (of_decide_eq_true (by kernel_rfl)) (by unfold Func.isWrapper; first | (rw [if_pos (by decide +kernel)]; kernel_rfl) | (rw [if_neg (by decide +kernel)]; exact ⟨rfl, rfl⟩))
    (fun os started H enc _ => lifted os started H enc)

/-- the tied card -/
theorem proved : Rows.FnRegisterScriptMatchesFirstComeSortedModelCardSaid :=
  Claim7.holds_tied_plain_at .later [] [.sentinel, .sentinel] true _ false
    row_holds (fun _ h => by cases h) (by kernel_rfl) (fun _ h => by cases h) fnRegisterScriptMatchesFirstComeSortedModel_row_tie rfl ⟨rfl, rfl⟩ (by kernel_rfl) rfl
    (fun f fn hf hfn => by
      obtain rfl : f = 3 := Option.some.inj ((show Tryd.prog.funcNamed Rows.fnRegisterScriptMatchesFirstComeSortedModelRow.func = some 3 by kernel_rfl).symm.trans hf) |>.symm
      obtain rfl : fn = Tryd.f3 := (Option.some.inj (Tryd.func3.symm.trans hfn)).symm
      exact ⟨by kernel_rfl, fun j t ht => by
        rw [Tryd.params3] at ht
        have hm : t ∈ [22] := by have h2 : t ∈ #[22, 22] := Array.mem_of_getElem? ht; simpa using h2
        have hall : ([22].all fun u => !Tryd.prog.wantsStandIn u) = true := by kernel_rfl
        exact (show Tryd.prog.wantsStandIn t = false by simpa using List.all_eq_true.1 hall t hm)⟩)
    (by kernel_rfl)
end Go.Proofs.Qxb6613043aDoor.fnRegisterScriptMatchesFirstComeSortedModel
