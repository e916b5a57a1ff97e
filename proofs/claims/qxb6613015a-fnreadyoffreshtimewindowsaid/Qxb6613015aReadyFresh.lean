/-
  Seat b6613015a: 'Rows.FnReadyOfFreshTimeWindowSaid'.
-/
import Derived.Test.Qxb6613015aWin
import Derived.OpenShut
import Derived.ShutString
import Derived.ChangeOld
namespace Go.Proofs.Qxb6613015a
open Go.ChangeShapes Go.WideShapes Go.ChangeAt Go.RowKit

theorem posn_any (b : Nat) (p : Int) (w : World) (h4 : w.cell? ⟨b, 4, none⟩ = some (.int .u64 p)) :
    Calls Try.prog 11 #[.pointer (some ⟨b, 0, none⟩)] w fun e w' => e = .returned (.int .u64 p) ∧ w' = w := by
  go_enter Try.func11, Try.ntmps11
  go_wp2_with fail
  refine (gload_any b 4 p w h4).mono ?_
  rintro e w' ⟨rfl, rfl⟩
  go_wp2
  go_ret
  exact ⟨rfl, rfl⟩
theorem len_any (b : Nat) (a : Addr) (n : Nat) (w : World) (h5 : w.cell? ⟨b, 5, none⟩ = some (.slice (some a) n n)) :
    Calls Try.prog 12 #[.pointer (some ⟨b, 0, none⟩)] w fun e w' => e = .returned (.int .i64 n) ∧ w' = w := by
  go_enter Try.func12, Try.ntmps12
  go_wp2
  go_ret
  exact ⟨rfl, rfl⟩

theorem rdy_a : rdy (nx 0 2147483648) = true := by decide +kernel
theorem rdy_b : rdy (nx 0 0) = false := by decide +kernel
theorem cnt_a : cnt (nx 0 2147483648) = 0 := by decide +kernel
theorem cnt_b : cnt (nx 0 0) = 0 := by decide +kernel
theorem nx_a : nx 0 2147483648 = bits BinOp.or IntKind.u64 17179869184 2147483648 := by decide +kernel
theorem nx_b : nx 0 0 = bits BinOp.or IntKind.u64 17179869184 0 := by decide +kernel

theorem walkOf (a0 a1 a2 : Int) (w : World) :
    Calls Try.prog 4 #[.int .i64 a0, .int .i64 a1, .int .i64 a2] w fun e w' => e = .returned (.bool true) ∧ Below w.heap.size w w' := by
  by_cases hlo : a0 < 0
  · go_enter Try.func4, Try.ntmps4
    go_wp2
    go_ret
    exact ⟨rfl, Below.refl _ _⟩
  by_cases hhi : 4096 < a0
  · go_enter Try.func4, Try.ntmps4
    go_wp2
    go_ret
    exact ⟨rfl, Below.refl _ _⟩
  obtain ⟨n, rfl⟩ := Int.eq_ofNat_of_zero_le (show 0 ≤ a0 by omega)
  by_cases hm : a1 ≤ 0
  · have hf : flg a1 0 = 2147483648 := flg_yes hm
    go_enter Try.func4, Try.ntmps4
    go_wp2_with fail
    refine (zznew_any n a1 a2 w (by omega)).mono ?_
    rintro e w1 ⟨b, g, rfl, hw, hb, hg, hbel⟩
    rw [hf] at hw
    have h4 := hw.c4
    have h5 := hw.c5
    clear hw hf
    go_wp2_with fail
    refine (posn_any b _ w1 h4).mono ?_
    rintro e w' ⟨rfl, rfl⟩
    go_wp2_with fail
    refine (zzready_any _ _).mono ?_
    rintro e w2 ⟨rfl, rfl⟩
    rw [rdy_a]
    go_wp2_with fail
    refine (zzcount_any _ _).mono ?_
    rintro e w3 ⟨rfl, rfl⟩
    rw [cnt_a]
    have hx : (nx 0 2147483648 == bits BinOp.or IntKind.u64 17179869184 2147483648) = true := by rw [nx_a]; simp
    go_wp2_with fail
    refine (len_any b _ n _ h5).mono ?_
    rintro e w4 ⟨rfl, rfl⟩
    go_wp2
    go_ret
    exact ⟨rfl, hbel⟩
  · have hf : flg a1 0 = 0 := flg_no (by omega)
    have hd : decide (a1 ≤ 0) = false := by simpa using hm
    go_enter Try.func4, Try.ntmps4
    go_wp2_with fail
    refine (zznew_any n a1 a2 w (by omega)).mono ?_
    rintro e w1 ⟨b, g, rfl, hw, hb, hg, hbel⟩
    rw [hf] at hw
    have h4 := hw.c4
    have h5 := hw.c5
    clear hw hf
    go_wp2_with fail
    refine (posn_any b _ w1 h4).mono ?_
    rintro e w' ⟨rfl, rfl⟩
    go_wp2_with fail
    refine (zzready_any _ _).mono ?_
    rintro e w2 ⟨rfl, rfl⟩
    rw [rdy_b]
    go_wp2_with fail
    refine (zzcount_any _ _).mono ?_
    rintro e w3 ⟨rfl, rfl⟩
    rw [cnt_b]
    have hx : (nx 0 0 == bits BinOp.or IntKind.u64 17179869184 0) = true := by rw [nx_b]; simp
    go_wp2_with fail
    refine (len_any b _ n _ h5).mono ?_
    rintro e w4 ⟨rfl, rfl⟩
    go_wp2
    go_ret
    exact ⟨rfl, hbel⟩

end Go.Proofs.Qxb6613015a
namespace Go.Proofs.Qxb6613015a.fnReadyOfFreshTimeWindow
open Go.ChangeShapes Go.WideShapes Go.ChangeAt Go.RowKit

theorem own : ownKnob Try.prog.godebug = none := by kernel_rfl

set_option maxRecDepth 100000 in
theorem lifted (os : Os) (started : os.Started) (H : Type) (enc : TypeId × Value → H) :
    ReturnsInHanded {} Try.checked os 4 .any (Rows.fnReadyOfFreshTimeWindowSpec.pre6 enc Try.prog Try.f4 Rows.fnReadyOfFreshTimeWindowRow.domain false) (Rows.fnReadyOfFreshTimeWindowSpec.post enc Try.prog Try.f4 false true false false) := by
  refine returnsInHanded_of_change (C := Try.checked) own started (by kernel_rfl) Try.func4
    (ChangeSpec.witness6 (enc := enc) (C := Try.checked) false ⟨#[], #[.int .i64 0, .int .i64 0, .int .i64 0], []⟩ 8 (by kernel_rfl) (by kernel_rfl) (by kernel_rfl) (by kernel_rfl)) ?_
  intro W base args ds gs before hval0 hW hcnd _
  have hval : ∀ (j : Nat) t v, Try.f4.params[j]? = some t → args[j]? = some v → Value.okWide Try.prog W .any base t v := hval0
  have hW' := hW
  obtain ⟨p, q, hA0, hV, rfl, hfz, hnd⟩ := hW
  have hA : DataW.TrodAll enc Try.prog W 0 (fun _ => true) true Try.f4.params.toList args.toList ds p := hA0
  rw [Try.params4] at hA hval
  obtain ⟨v0, vs0, d0, ds0, p0, q0, hargs, rfl, rfl, h0, r0⟩ := trodAll_cons hA
  obtain ⟨v1, vs1, d1, ds1, p1, q1, rfl, rfl, rfl, h1, r1⟩ := trodAll_cons r0
  obtain ⟨v2, vs2, d2, ds2, p2, q2, rfl, rfl, rfl, h2, r2⟩ := trodAll_cons r1
  obtain ⟨rfl, rfl, rfl⟩ := trodAll_nil r2
  obtain rfl : args = #[v0, v1, v2] := by cases args; simp_all
  obtain ⟨rfl, rfl⟩ := trodVars_none hV
  obtain ⟨a0, rfl, rfl, rfl, w0⟩ := open_int Try.underlying3 (hval 0 3 v0 rfl rfl) h0
  obtain ⟨a1, rfl, rfl, rfl, w1⟩ := open_int Try.underlying3 (hval 1 3 v1 rfl rfl) h1
  obtain ⟨a2, rfl, rfl, rfl, w2⟩ := open_int Try.underlying2 (hval 2 2 v2 rfl rfl) h2
  clear hA0 hval0
  refine (walkOf a0 a1 a2 W).mono fun e W' ⟨he, bel⟩ => ?_
  subst he
  exact ⟨_, rfl, _, _, _, [], _, [], hW', trodAll_mk1 (shut_bool Try.underlying4 _), (trodAll_cons_mk (shut_int Try.underlying3 w0) (trodAll_cons_mk (shut_int Try.underlying3 w1) (trodAll_cons_mk (shut_int Try.underlying2 w2) trodAll_mk0))), rfl, bel.frame _, fun h => by cases h⟩

theorem over : Rows.fnReadyOfFreshTimeWindowRow.holds Try.pinned (OpenSpec.ofChange Rows.fnReadyOfFreshTimeWindowSpec) :=
  OpenClaim.holds_of_wide 4 Try.f4 rfl rfl rfl rfl rfl rfl rfl ⟨rfl, rfl, rfl, rfl, rfl⟩ rfl rfl rfl rfl rfl (by kernel_rfl) Try.func4 (by kernel_rfl)
    (of_decide_eq_true (by kernel_rfl)) (by unfold Func.isWrapper; first | (rw [if_pos (by decide +kernel)]; kernel_rfl) | (rw [if_neg (by decide +kernel)]; exact ⟨rfl, rfl⟩))
    (fun os started H enc _ => lifted os started H enc)

theorem proved : Rows.FnReadyOfFreshTimeWindowSaid :=
  over
end Go.Proofs.Qxb6613015a.fnReadyOfFreshTimeWindow
