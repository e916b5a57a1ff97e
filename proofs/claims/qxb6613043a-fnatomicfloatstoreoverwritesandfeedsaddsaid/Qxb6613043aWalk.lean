/-
  Seat b6613043a: the walks of the atomic float, and of the law.
-/
import Derived.Test.Qxb6613043aRows
import Derived.Test.Qxb6613043aPlain
import Derived.WalkKit
import Derived.ProofKit
import Derived.WalkSpells
import Derived.WalkLawsBesides
import Derived.Outline
import Derived.Laws.LoneSync
import Derived.BigQuiet
import Derived.Deep.RegionWith
import Derived.Below
import Derived.WalkSmall
namespace Go.Proofs.Qxb6613043a
open Go.RowKit

/-! ### the entries -/
theorem load_law {a : Addr} {x : Int} {w : World} (hc : w.cell? a = some (.int .u64 x)) :
    (callFunc 24 #[.pointer (some a)]).run Try.prog w = .ok (.value (.int .u64 x)) w :=
  run_call_load (P := Try.prog) Try.func24 (by kernel_rfl) (by kernel_rfl) (by kernel_rfl) .u64 (by kernel_rfl) hc
theorem store_law {a : Addr} {y : Int} {u : Value} {w : World} (hc : w.cell? a = some u) (hz : w.frozen? a = false) :
    (callFunc 23 #[.pointer (some a), .int .u64 y]).run Try.prog w = .ok (.value (.tuple #[])) (w.setCell a (.int .u64 y)) :=
  run_call_store (P := Try.prog) Try.func23 (by kernel_rfl) (by kernel_rfl) (by kernel_rfl) (by kernel_rfl) hc hz
theorem cas_law {a : Addr} {x y : Int} {w : World} (hc : w.cell? a = some (.int .u64 x)) (hz : w.frozen? a = false) :
    (callFunc 25 #[.pointer (some a), .int .u64 x, .int .u64 y]).run Try.prog w = .ok (.value (.bool true)) (w.setCell a (.int .u64 y)) :=
  run_call_cas_hit (P := Try.prog) Try.func25 (by kernel_rfl) (by kernel_rfl) (by kernel_rfl) .u64 (by kernel_rfl) hc hz
theorem bits_law (x : Nat) (w : World) : (callFunc 19 #[.float .f64 x]).run Try.prog w = .ok (.value (.int .u64 x)) w := by
  rw [run_callFunc_extern Try.func19 (by kernel_rfl) (by kernel_rfl) (by kernel_rfl) (show Extern.find Try.f19 = some Extern.MathFloatBits.float64bits from by kernel_rfl)]
  rfl
theorem frombits_law (x : Nat) (w : World) : (callFunc 20 #[.int .u64 (x : Int)]).run Try.prog w = .ok (.value (.float .f64 x)) w := by
  rw [run_callFunc_extern Try.func20 (by kernel_rfl) (by kernel_rfl) (by kernel_rfl) (show Extern.find Try.f20 = some Extern.MathFloatBits.float64frombits from by kernel_rfl)]
  rfl

/-! ### '+' on two words: what it may give -/
theorem run_fadd (x y : Nat) (w : World) : ∃ r n, (binOp .add 22 (.float .f64 x) (.float .f64 y)).run Try.prog w = .ok (.float .f64 r) (w.drewN n) ∧ FAdd x y r := by
  cases h : Ieee.double.add x y with
  | some r => exact ⟨r, 0, run_float_arith w .add 22 .f64 x y r h, .inl h⟩
  | none =>
    refine ⟨_, 1, ?_, .inr ⟨h, nan_cut (w.tape w.drawn (.nanBits .f64 x y))⟩⟩
    have h' : FloatKind.f64.format.add x y = none := h
    simp [binOp, Op.floatArith, h', Question.forced, Question.cut]
    rfl

/-! ### the atomic float -/
theorem uload_any (b o : Nat) (x : Int) (w : World) (hc : w.cell? ⟨b, o, none⟩ = some (.int .u64 x)) :
    Calls Try.prog 21 #[.pointer (some ⟨b, o, none⟩)] w fun e w' => e = .returned (.int .u64 x) ∧ w' = w := by
  have hl := load_law hc
  go_enter Try.func21, Try.ntmps21
  go_wp2
  go_ret
  exact ⟨rfl, rfl⟩
theorem ustore_any (b o : Nat) (y : Int) (u : Value) (w : World) (hc : w.cell? ⟨b, o, none⟩ = some u) (hz : w.frozen? ⟨b, o, none⟩ = false) :
    Calls Try.prog 18 #[.pointer (some ⟨b, o, none⟩), .int .u64 y] w fun e w' => e = .returned (.tuple #[]) ∧ w' = w.setCell ⟨b, o, none⟩ (.int .u64 y) := by
  have hl := store_law (y := y) hc hz
  go_enter Try.func18, Try.ntmps18
  go_wp2
  go_end0
  exact ⟨rfl, rfl⟩
theorem ucas_any (b o : Nat) (x y : Int) (w : World) (hc : w.cell? ⟨b, o, none⟩ = some (.int .u64 x)) (hz : w.frozen? ⟨b, o, none⟩ = false) :
    Calls Try.prog 22 #[.pointer (some ⟨b, o, none⟩), .int .u64 x, .int .u64 y] w fun e w' => e = .returned (.bool true) ∧ w' = w.setCell ⟨b, o, none⟩ (.int .u64 y) := by
  have hl := cas_law (y := y) hc hz
  go_enter Try.func22, Try.ntmps22
  go_wp2
  go_ret
  exact ⟨rfl, rfl⟩
theorem fload_any (b : Nat) (x : Nat) (w : World) (hc : w.cell? ⟨b, 0, none⟩ = some (.int .u64 (x : Int))) :
    Calls Try.prog 16 #[.pointer (some ⟨b, 0, none⟩)] w fun e w' => e = .returned (.float .f64 x) ∧ w' = w := by
  have hf := frombits_law x
  go_enter Try.func16, Try.ntmps16
  go_wp2_with fail
  refine (uload_any b 0 _ w hc).mono ?_
  rintro e w' ⟨rfl, rfl⟩
  go_wp2
  go_ret
  exact ⟨rfl, rfl⟩
theorem zload_any (b : Nat) (x : Nat) (w : World) (hc : w.cell? ⟨b, 0, none⟩ = some (.int .u64 (x : Int))) :
    Calls Try.prog 9 #[.pointer (some ⟨b, 0, none⟩)] w fun e w' => e = .returned (.float .f64 x) ∧ w' = w := by
  go_enter Try.func9, Try.ntmps9
  go_wp2_with fail
  refine (fload_any b x w hc).mono ?_
  rintro e w' ⟨rfl, rfl⟩
  go_wp2
  go_ret
  exact ⟨rfl, rfl⟩
theorem fstore_any (b : Nat) (v : Nat) (u : Value) (w : World) (hc : w.cell? ⟨b, 0, none⟩ = some u) (hz : w.frozen? ⟨b, 0, none⟩ = false) :
    Calls Try.prog 15 #[.pointer (some ⟨b, 0, none⟩), .float .f64 v] w fun e w' => e = .returned (.tuple #[]) ∧ ∃ n, w' = (w.setCell ⟨b, 0, none⟩ (.int .u64 (v : Int))).drewN n := by
  have hf := bits_law v
  go_enter Try.func15, Try.ntmps15
  go_region_with (go_at_call 18; refine (ustore_any b 0 _ u _ (by simpa using hc) (by simpa using hz)).mono ?_; rintro e w' ⟨rfl, rfl⟩)
  go_wp2
  go_end0
  exact ⟨rfl, 1, rfl⟩
theorem fadd_any (b : Nat) (x v : Nat) (w : World) (hc : w.cell? ⟨b, 0, none⟩ = some (.int .u64 (x : Int))) (hz : w.frozen? ⟨b, 0, none⟩ = false) :
    Calls Try.prog 17 #[.pointer (some ⟨b, 0, none⟩), .float .f64 v] w fun e w' => e = .returned (.tuple #[]) ∧ ∃ r n, w' = (w.setCell ⟨b, 0, none⟩ (.int .u64 (r : Nat))).drewN n ∧ FAdd x v r := by
  have hf := frombits_law x
  obtain ⟨r, k, hadd, hF⟩ := run_fadd x v w
  have hb := bits_law r
  have HF : Hid (FAdd x v r) := hF
  clear hF
  go_enter Try.func17, Try.ntmps17
  go_wp2_with fail
  refine wp_loop_rounds 1 ?_
  rw [rounds_succ]
  go_wp2_with fail
  refine (uload_any b 0 _ w hc).mono ?_
  rintro e w ⟨rfl, rfl⟩
  go_wp2
  go_region_with (go_at_call 22; refine (ucas_any b 0 _ _ _ (by simpa using hc) (by simpa using hz)).mono ?_; rintro e w' ⟨rfl, rfl⟩)
  go_wp2
  first | go_end0 | refine bodyPost_ret (results_none rfl _ _ _) rfl ?_
  exact ⟨rfl, r, k + 1, rfl, HF.out⟩
theorem zadd_any (b : Nat) (x v : Nat) (w : World) (hc : w.cell? ⟨b, 0, none⟩ = some (.int .u64 (x : Int))) (hz : w.frozen? ⟨b, 0, none⟩ = false) :
    Calls Try.prog 10 #[.pointer (some ⟨b, 0, none⟩), .float .f64 v] w fun e w' => e = .returned (.tuple #[]) ∧ ∃ r n, w' = (w.setCell ⟨b, 0, none⟩ (.int .u64 (r : Nat))).drewN n ∧ FAdd x v r := by
  go_enter Try.func10, Try.ntmps10
  go_wp2_with fail
  refine (fadd_any b x v w hc hz).mono ?_
  rintro e w' ⟨rfl, r, n, rfl, hF⟩
  have HF : Hid (FAdd x v r) := hF
  clear hF
  go_wp2
  go_end0
  exact ⟨rfl, r, n, rfl, HF.out⟩
theorem zstore_any (b : Nat) (v : Nat) (u : Value) (w : World) (hc : w.cell? ⟨b, 0, none⟩ = some u) (hz : w.frozen? ⟨b, 0, none⟩ = false) :
    Calls Try.prog 7 #[.pointer (some ⟨b, 0, none⟩), .float .f64 v] w fun e w' => e = .returned (.tuple #[]) ∧ ∃ n, w' = (w.setCell ⟨b, 0, none⟩ (.int .u64 (v : Int))).drewN n := by
  go_enter Try.func7, Try.ntmps7
  go_wp2_with fail
  refine (fstore_any b v u w hc hz).mono ?_
  rintro e w' ⟨rfl, n, rfl⟩
  go_wp2
  go_end0
  exact ⟨rfl, n, rfl⟩
theorem znew_any (w : World) : Calls Try.prog 6 #[] w fun e w' => e = .returned (.pointer (some ⟨w.heap.size, 0, none⟩)) ∧ w' = w.alloc (.cells #[.int .u64 0] 38) := by
  go_enter Try.func6, Try.ntmps6
  go_wp2
  go_ret
  exact ⟨rfl, rfl⟩

/-! ### sameFloatF -/
theorem same_nan (x y : Nat) (w : World) (hx : IsNaN x) (hy : IsNaN y) :
    Calls Try.prog 8 #[.float .f64 x, .float .f64 y] w fun e w' => e = .returned (.bool true) ∧ w' = w := by
  have h1 : FloatKind.f64.format.order x x = none := hx
  have h2 : FloatKind.f64.format.order y y = none := hy
  clear hx hy
  go_enter Try.func8, Try.ntmps8
  go_wp2
  go_ret
  exact ⟨rfl, rfl⟩
theorem same_eq (x : Nat) (w : World) :
    Calls Try.prog 8 #[.float .f64 x, .float .f64 x] w fun e w' => e = .returned (.bool true) ∧ w' = w := by
  rcases order_self x with h | h
  · exact same_nan x x w h h
  · have h1 : FloatKind.f64.format.order x x = some .eq := h
    clear h
    cases h0 : FloatKind.f64.format.order x 0 == some .eq with
    | true =>
      obtain ⟨r, hr⟩ := one_by_zero (x := x) (show FloatKind.f64.format.order x 0 = some .eq by simpa using h0)
      have hd := fun w => run_float_arith (P := Try.prog) w .quo 22 .f64 4607182418800017408 x r hr
      clear hr
      go_enter Try.func8, Try.ntmps8
      go_wp2
      go_ret
      exact ⟨rfl, rfl⟩
    | false =>
      go_enter Try.func8, Try.ntmps8
      go_wp2
      go_ret
      exact ⟨rfl, rfl⟩

/-! ### the law -/
theorem law_any (a v u : Nat) (w : World) :
    Calls Try.prog 4 #[.float .f64 a, .float .f64 v, .float .f64 u] w fun e w' => e = .returned (.bool true) ∧ Below w.heap.size w w' := by
  go_enter Try.func4, Try.ntmps4
  go_wp2_with fail
  refine (znew_any w).mono ?_
  rintro e w1 ⟨rfl, rfl⟩
  generalize hb : w.heap.size = b
  have c1 : (w.alloc (.cells #[.int .u64 0] 38)).cell? ⟨b, 0, none⟩ = some (.int .u64 ((0 : Nat) : Int)) := by rw [World.cell?_alloc_at _ _ _ _ hb.symm]; rfl
  have z1 : (w.alloc (.cells #[.int .u64 0] 38)).frozen? ⟨b, 0, none⟩ = false := World.frozen?_alloc_at _ _ _ _ hb.symm
  have hbel1 : Below b w (w.alloc (.cells #[.int .u64 0] 38)) := (Below.refl b w).alloc (by omega) _
  generalize w.alloc (.cells #[.int .u64 0] 38) = w1 at c1 z1 hbel1 ⊢
  have HB : Hid (w.heap.size = b) := hb
  clear hb
  go_wp2_with fail
  refine (zadd_any b 0 a w1 c1 z1).mono ?_
  rintro e w2 ⟨rfl, r, n, rfl, _⟩
  have c2 : ((w1.setCell ⟨b, 0, none⟩ (.int .u64 (r : Nat))).drewN n).cell? ⟨b, 0, none⟩ = some (.int .u64 (r : Nat)) := World.cell?_setCell_same w1 _ _ c1
  have z2 : ((w1.setCell ⟨b, 0, none⟩ (.int .u64 (r : Nat))).drewN n).frozen? ⟨b, 0, none⟩ = false := by simpa using z1
  have hbel2 := below_drewN (hbel1.setCell (p := ⟨b, 0, none⟩) (Nat.le_refl _) (.int .u64 (r : Nat))) n
  generalize (w1.setCell ⟨b, 0, none⟩ (.int .u64 (r : Nat))).drewN n = w2 at c2 z2 hbel2 ⊢
  clear c1 z1 hbel1
  go_wp2_with fail
  refine (zstore_any b v _ w2 c2 z2).mono ?_
  rintro e w3 ⟨rfl, n3, rfl⟩
  have c3 : ((w2.setCell ⟨b, 0, none⟩ (.int .u64 (v : Int))).drewN n3).cell? ⟨b, 0, none⟩ = some (.int .u64 (v : Int)) := World.cell?_setCell_same w2 _ _ c2
  have z3 : ((w2.setCell ⟨b, 0, none⟩ (.int .u64 (v : Int))).drewN n3).frozen? ⟨b, 0, none⟩ = false := by simpa using z2
  have hbel3 := below_drewN (hbel2.setCell (p := ⟨b, 0, none⟩) (Nat.le_refl _) (.int .u64 (v : Int))) n3
  generalize (w2.setCell ⟨b, 0, none⟩ (.int .u64 (v : Int))).drewN n3 = w3 at c3 z3 hbel3 ⊢
  clear c2 z2 hbel2
  go_wp2_with fail
  refine (zload_any b v w3 c3).mono ?_
  rintro e w3 ⟨rfl, rfl⟩
  go_wp2_with fail
  refine (zadd_any b v u w3 c3 z3).mono ?_
  rintro e w4 ⟨rfl, r4, n4, rfl, hF4⟩
  have c4 : ((w3.setCell ⟨b, 0, none⟩ (.int .u64 (r4 : Nat))).drewN n4).cell? ⟨b, 0, none⟩ = some (.int .u64 (r4 : Nat)) := World.cell?_setCell_same w3 _ _ c3
  have hbel4 := below_drewN (hbel3.setCell (p := ⟨b, 0, none⟩) (Nat.le_refl _) (.int .u64 (r4 : Nat))) n4
  generalize (w3.setCell ⟨b, 0, none⟩ (.int .u64 (r4 : Nat))).drewN n4 = w4 at c4 hbel4 ⊢
  clear c3 z3 hbel3
  go_wp2_with fail
  refine (zload_any b r4 w4 c4).mono ?_
  rintro e w4 ⟨rfl, rfl⟩
  clear c4
  go_wp2_with fail
  refine (same_eq v w4).mono ?_
  rintro e w4 ⟨rfl, rfl⟩
  obtain ⟨r5, n5, hadd, hF5⟩ := run_fadd v u w4
  have H2 := hF4.two hF5
  have HT : Hid (r4 = r5 ∨ (IsNaN r4 ∧ IsNaN r5)) := H2
  clear hF4 hF5 H2
  have hbel5 := below_drewN hbel4 n5
  go_wp2_with fail
  have call : Calls Try.prog 8 #[.float .f64 r4, .float .f64 r5] (w4.drewN n5) fun e w' => e = .returned (.bool true) ∧ w' = w4.drewN n5 := by
    rcases HT.out with h | ⟨h1, h2⟩
    · subst h; exact same_eq r4 _
    · exact same_nan r4 r5 _ h1 h2
  refine call.mono ?_
  rintro e w5 ⟨rfl, rfl⟩
  go_wp2
  go_ret
  refine ⟨rfl, ?_⟩
  rw [HB.out]
  exact hbel5
end Go.Proofs.Qxb6613043a
