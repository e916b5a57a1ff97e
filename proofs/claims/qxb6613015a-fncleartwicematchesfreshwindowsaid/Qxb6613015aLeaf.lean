/-
  Seat b6613015a: the leaves: positions, the atomic word, judged, endChange.
-/
import Derived.Test.Qxb6613015aRows
import Derived.WalkKit
import Derived.ProofKit
import Derived.WalkSpells
import Derived.Outline
import Derived.Laws.LoneSync
import Derived.BigQuiet
import Derived.Deep.RegionWith
namespace Go.Proofs.Qxb6613015a
open Go.RowKit

/-- what 'next' gives, as the walk spells it, at count 0 -/
def nx (p fl : Int) : Int :=
  bits BinOp.or IntKind.u64 (bits BinOp.or IntKind.u64 (IntKind.u64.wrap (IntKind.u64.wrap (p / 17179869184 + 1) * 17179869184)) fl) (IntKind.u64.wrap 0)

def flg (m c : Int) : Int := if m ≤ c then 2147483648 else 0
theorem flg_yes {m c : Int} (h : m ≤ c) : flg m c = 2147483648 := if_pos h
theorem flg_no {m c : Int} (h : c < m) : flg m c = 0 := if_neg (by omega)
def rdy (p : Int) : Bool := bits BinOp.and IntKind.u64 p 2147483648 != 0
def cnt (p : Int) : Int := wrap64 (bits BinOp.and IntKind.u64 p 2147483647)

theorem next_any (p fl : Int) (w : World) :
    Calls Try.prog 25 #[.int .u64 p, .int .i64 0, .int .u64 fl] w fun e w' => e = .returned (.int .u64 (nx p fl)) ∧ w' = w := by
  go_enter Try.func25, Try.ntmps25
  go_wp2
  go_ret
  exact ⟨rfl, rfl⟩
theorem ready_any (p : Int) (w : World) :
    Calls Try.prog 26 #[.int .u64 p] w fun e w' => e = .returned (.bool (rdy p)) ∧ w' = w := by
  go_enter Try.func26, Try.ntmps26
  go_wp2
  go_ret
  exact ⟨rfl, rfl⟩
theorem count_any (p : Int) (w : World) :
    Calls Try.prog 27 #[.int .u64 p] w fun e w' => e = .returned (.int .i64 (cnt p)) ∧ w' = w := by
  go_enter Try.func27, Try.ntmps27
  go_wp2
  go_ret
  exact ⟨rfl, rfl⟩
theorem zzready_any (p : Int) (w : World) :
    Calls Try.prog 8 #[.int .u64 p] w fun e w' => e = .returned (.bool (rdy p)) ∧ w' = w := by
  go_enter Try.func8, Try.ntmps8
  go_wp2_with fail
  refine (ready_any _ _).mono ?_
  rintro e w' ⟨rfl, rfl⟩
  go_wp2
  go_ret
  exact ⟨rfl, rfl⟩
theorem zzcount_any (p : Int) (w : World) :
    Calls Try.prog 9 #[.int .u64 p] w fun e w' => e = .returned (.int .i64 (cnt p)) ∧ w' = w := by
  go_enter Try.func9, Try.ntmps9
  go_wp2_with fail
  refine (count_any _ _).mono ?_
  rintro e w' ⟨rfl, rfl⟩
  go_wp2
  go_ret
  exact ⟨rfl, rfl⟩

/-! the atomic word -/
theorem load_law {a : Addr} {x : Int} {w : World} (hc : w.cell? a = some (.int .u64 x)) :
    (callFunc 38 #[.pointer (some a)]).run Try.prog w = .ok (.value (.int .u64 x)) w :=
  run_call_load (P := Try.prog) Try.func38 (by kernel_rfl) (by kernel_rfl) (by kernel_rfl) .u64 (by kernel_rfl) hc
theorem store_law {a : Addr} {y : Int} {u : Value} {w : World} (hc : w.cell? a = some u) (hz : w.frozen? a = false) :
    (callFunc 42 #[.pointer (some a), .int .u64 y]).run Try.prog w = .ok (.value (.tuple #[])) (w.setCell a (.int .u64 y)) :=
  run_call_store (P := Try.prog) Try.func42 (by kernel_rfl) (by kernel_rfl) (by kernel_rfl) (by kernel_rfl) hc hz
theorem uload_any (b o : Nat) (x : Int) (w : World) (hc : w.cell? ⟨b, o, none⟩ = some (.int .u64 x)) :
    Calls Try.prog 32 #[.pointer (some ⟨b, o, none⟩)] w fun e w' => e = .returned (.int .u64 x) ∧ w' = w := by
  have hl := load_law hc
  go_enter Try.func32, Try.ntmps32
  go_wp2
  go_ret
  exact ⟨rfl, rfl⟩
theorem gload_any (b o : Nat) (x : Int) (w : World) (hc : w.cell? ⟨b, o, none⟩ = some (.int .u64 x)) :
    Calls Try.prog 29 #[.pointer (some ⟨b, o, none⟩)] w fun e w' => e = .returned (.int .u64 x) ∧ w' = w := by
  go_enter Try.func29, Try.ntmps29
  go_wp2_with fail
  refine (uload_any b o x w hc).mono ?_
  rintro e w' ⟨rfl, rfl⟩
  go_wp2
  go_ret
  exact ⟨rfl, rfl⟩
theorem ustore_any (b o : Nat) (y : Int) (u : Value) (w : World) (hc : w.cell? ⟨b, o, none⟩ = some u) (hz : w.frozen? ⟨b, o, none⟩ = false) :
    Calls Try.prog 39 #[.pointer (some ⟨b, o, none⟩), .int .u64 y] w fun e w' => e = .returned (.tuple #[]) ∧ w' = w.setCell ⟨b, o, none⟩ (.int .u64 y) := by
  have hl := store_law (y := y) hc hz
  go_enter Try.func39, Try.ntmps39
  go_wp2
  go_end0
  exact ⟨rfl, rfl⟩
theorem gstore_any (b o : Nat) (y : Int) (u : Value) (w : World) (hc : w.cell? ⟨b, o, none⟩ = some u) (hz : w.frozen? ⟨b, o, none⟩ = false) :
    Calls Try.prog 34 #[.pointer (some ⟨b, o, none⟩), .int .u64 y] w fun e w' => e = .returned (.tuple #[]) ∧ w' = w.setCell ⟨b, o, none⟩ (.int .u64 y) := by
  go_enter Try.func34, Try.ntmps34
  go_wp2_with fail
  refine (ustore_any b o y u w hc hz).mono ?_
  rintro e w' ⟨rfl, rfl⟩
  go_wp2
  go_end0
  exact ⟨rfl, rfl⟩
theorem judged_any (b : Nat) (c m : Int) (w : World) (h0 : w.cell? ⟨b, 0, none⟩ = some (.int .i64 c)) (h3 : w.cell? ⟨b, 3, none⟩ = some (.int .i64 m)) :
    Calls Try.prog 33 #[.pointer (some ⟨b, 0, none⟩)] w fun e w' => e = .returned (.bool (decide (m ≤ c))) ∧ ∃ n, w' = w.drewN n := by
  go_enter Try.func33, Try.ntmps33
  go_wp2
  go_quiet (fail)
  go_wp2
  go_ret
  exact ⟨rfl, _, rfl⟩
theorem endChange_any (b : Nat) (c m p : Int) (w : World) (h0 : w.cell? ⟨b, 0, none⟩ = some (.int .i64 c)) (h3 : w.cell? ⟨b, 3, none⟩ = some (.int .i64 m))
    (h4 : w.cell? ⟨b, 4, none⟩ = some (.int .u64 p)) (f4 : w.frozen? ⟨b, 4, none⟩ = false) :
    Calls Try.prog 30 #[.pointer (some ⟨b, 0, none⟩)] w fun e w' => e = .returned (.tuple #[]) ∧ ∃ n, w' = (w.setCell ⟨b, 4, none⟩ (.int .u64 (nx p (flg m c)))).drewN n := by
  go_enter Try.func30, Try.ntmps30
  go_wp2_with fail
  refine (judged_any b c m w h0 h3).mono ?_
  rintro e w' ⟨rfl, n, rfl⟩
  by_cases hmc : m ≤ c
  all_goals
    go_wp2_with fail
    go_region_with (first | (go_at_call 29; refine (gload_any b 4 p _ (by simpa using h4)).mono ?_; rintro e w' ⟨rfl, rfl⟩) | (go_at_call 25; refine (next_any _ _ _).mono ?_; rintro e w' ⟨rfl, rfl⟩) | (go_at_call 34; refine (gstore_any b 4 _ (.int .u64 p) _ (by simpa using h4) (by simpa using f4)).mono ?_; rintro e w' ⟨rfl, rfl⟩))
    go_wp2
    go_end0
    first | rw [flg_yes hmc] | rw [flg_no hmc]
    exact ⟨rfl, n + 1, rfl⟩
end Go.Proofs.Qxb6613015a
