/-
  Seat b6613015a: hold, gather, empty, clear.
-/
import Derived.Test.Qxb6613015aOps
namespace Go.Proofs.Qxb6613015a
open Go.RowKit

def hld (p : Int) : Int := bits BinOp.or IntKind.u64 p 8589934592

theorem cas_law {a : Addr} {x y : Int} {w : World} (hc : w.cell? a = some (.int .u64 x)) (hz : w.frozen? a = false) :
    (callFunc 44 #[.pointer (some a), .int .u64 x, .int .u64 y]).run Try.prog w = .ok (.value (.bool true)) (w.setCell a (.int .u64 y)) :=
  run_call_cas_hit (P := Try.prog) Try.func44 (by kernel_rfl) (by kernel_rfl) (by kernel_rfl) .u64 (by kernel_rfl) hc hz
theorem run_call_swap {P : Program} {f : FuncId} {fn : Func} (hf : P.funcs[f]? = some fn) (hname : (fn.name == "runtime.NumGoroutine") = false) (hb : fn.body.isNone = true) (hn : Extern.findNext fn = none) (k : IntKind)
    (he : Extern.find fn = some (Extern.Atomic.swapT (.int k))) {a : Addr} {x y : Int} {w : World} (hc : w.cell? a = some (.int k x)) (hz : w.frozen? a = false) :
    (callFunc f #[.pointer (some a), .int k y]).run P w = .ok (.value (.int k x)) (w.setCell a (.int k y)) := by
  rw [run_callFunc_extern hf hname hb hn he]
  change (Sem.run P (do
    let a' ← asAddr (.pointer (some a))
    let old ← Extern.Atomic.read (.int k) a'
    store a' (.int k y) .atomic
    pure old) w).andThen _ = _
  simp [Extern.Atomic.read, asAddr, hc, hz, run_store P w a (.int k y) .atomic rfl, Result.andThen]
theorem swap_law {a : Addr} {x y : Int} {w : World} (hc : w.cell? a = some (.int .u64 x)) (hz : w.frozen? a = false) :
    (callFunc 43 #[.pointer (some a), .int .u64 y]).run Try.prog w = .ok (.value (.int .u64 x)) (w.setCell a (.int .u64 y)) :=
  run_call_swap (P := Try.prog) Try.func43 (by kernel_rfl) (by kernel_rfl) (by kernel_rfl) .u64 (by kernel_rfl) hc hz
theorem ucas_any (b o : Nat) (x y : Int) (w : World) (hc : w.cell? ⟨b, o, none⟩ = some (.int .u64 x)) (hz : w.frozen? ⟨b, o, none⟩ = false) :
    Calls Try.prog 41 #[.pointer (some ⟨b, o, none⟩), .int .u64 x, .int .u64 y] w fun e w' => e = .returned (.bool true) ∧ w' = w.setCell ⟨b, o, none⟩ (.int .u64 y) := by
  have hl := cas_law (y := y) hc hz
  go_enter Try.func41, Try.ntmps41
  go_wp2
  go_ret
  exact ⟨rfl, rfl⟩
theorem uswap_any (b o : Nat) (x y : Int) (w : World) (hc : w.cell? ⟨b, o, none⟩ = some (.int .u64 x)) (hz : w.frozen? ⟨b, o, none⟩ = false) :
    Calls Try.prog 40 #[.pointer (some ⟨b, o, none⟩), .int .u64 y] w fun e w' => e = .returned (.int .u64 x) ∧ w' = w.setCell ⟨b, o, none⟩ (.int .u64 y) := by
  have hl := swap_law (y := y) hc hz
  go_enter Try.func40, Try.ntmps40
  go_wp2
  go_ret
  exact ⟨rfl, rfl⟩
theorem hold_any (b o : Nat) (p : Int) (w : World) (hc : w.cell? ⟨b, o, none⟩ = some (.int .u64 p)) (hz : w.frozen? ⟨b, o, none⟩ = false) :
    Calls Try.prog 36 #[.pointer (some ⟨b, o, none⟩)] w fun e w' => e = .returned (.int .u64 p) ∧ w' = w.setCell ⟨b, o, none⟩ (.int .u64 (hld p)) := by
  go_enter Try.func36, Try.ntmps36
  go_wp2_with fail
  refine wp_loop_rounds 1 ?_
  rw [rounds_succ]
  go_wp2_with fail
  refine (uload_any b o p w hc).mono ?_
  rintro e w' ⟨rfl, rfl⟩
  go_wp2_with fail
  refine (ucas_any b o p (hld p) _ hc hz).mono ?_
  rintro e w' ⟨rfl, rfl⟩
  go_wp2
  go_ret
  exact ⟨rfl, rfl⟩
theorem gather_any (b g n : Nat) (c f s m p wd q : Int) (S B : Nat → Int) (w : World) (h : Win w b g n c f s m p wd S B) :
    Calls Try.prog 35 #[.pointer (some ⟨b, 0, none⟩), .int .u64 q] w fun e w' => ∃ v, e = .returned (.int .i64 v) ∧ Win w' b g n c f s m p wd (fun _ => nx q 0) B ∧ Chg b g w w' := by
  go_enter Try.func35, Try.ntmps35
  go_wp2_with fail
  refine (next_any _ _ _).mono ?_
  rintro e w' ⟨rfl, rfl⟩
  go_wp2_with fail
  go_loopw [6, 10] (fun v i wr => ∃ k : Nat, k ≤ 8 ∧ i = .int .i64 k ∧ (∃ x, v = .int .i64 x) ∧ Win wr b g n c f s m p wd (fun j => if j < k then nx q 0 else S j) B ∧ Chg b g w' wr)
    (fun _ i _ => 8 - (intOf i).toNat)
  case atStart => exact ⟨0, by omega, rfl, ⟨_, rfl⟩, h.congr (fun i _ => if_neg (by omega)) (fun _ _ => rfl), Chg.refl _ _ _⟩
  case round =>
    obtain ⟨k, hk, rfl, ⟨x, rfl⟩, hw, hch⟩ := hrel
    by_cases hlt : k < 8
    · have hc := hw.st k hlt
      rw [Nat.mul_comm] at hc
      have hz := hw.fb (74 + k * 57)
      have R := hw.putS k (nx q 0) hlt
      rw [Nat.mul_comm] at R
      have C := hch.setB (74 + k * 57) (.int .u64 (nx q 0))
      generalize (if k < k then nx q 0 else S k) = y at hc
      clear hw hch
      go_wp2_with fail
      refine (uswap_any b _ _ (nx q 0) _ hc hz).mono ?_
      rintro e w2 ⟨rfl, rfl⟩
      go_wp2_with fail
      refine (count_any _ _).mono ?_
      rintro e w2 ⟨rfl, rfl⟩
      go_wp2
      go_roundw
      case rel => exact ⟨k + 1, by omega, by go_num, ⟨_, rfl⟩, R.congr (fun i _ => by by_cases h1 : i = k <;> by_cases h2 : i < k <;> by_cases h3 : i < k + 1 <;> simp [h1, h2, h3] <;> omega) (fun _ _ => rfl), C⟩
      case measure => simp [intOf]; omega
    · have R := hw.congr (S' := fun _ => nx q 0) (fun i hi => (if_pos (by omega)).symm) (fun _ _ => rfl)
      clear hw
      go_wp2
      go_ret
      exact ⟨_, rfl, R, hch⟩
theorem empty_any (b g n : Nat) (c f s m p wd : Int) (S B : Nat → Int) (w : World) (h : Win w b g n c f s m p wd S B) (hn : n ≤ 4096) :
    Calls Try.prog 37 #[.pointer (some ⟨b, 0, none⟩)] w fun e w' => e = .returned (.tuple #[]) ∧ Win w' b g n 0 0 0 m p wd S (fun _ => 0) ∧ Chg b g w w' := by
  have h5 := h.c5
  go_enter Try.func37, Try.ntmps37
  go_wp2
  go_loopw [8] (fun i wr => ∃ k : Nat, k ≤ n ∧ i = .int .i64 k ∧ Win wr b g n c f s m p wd S (fun j => if j < k * 3 then 0 else B j) ∧ Chg b g w wr)
    (fun i _ => n - (intOf i).toNat)
  case atStart => exact ⟨0, by omega, rfl, h.congr (fun _ _ => rfl) (fun i _ => if_neg (by omega)), Chg.refl _ _ _⟩
  case round =>
    obtain ⟨k, hk, rfl, hw, hch⟩ := hrel
    by_cases hlt : k < n
    · have h5r := hw.c5
      have h0 := hw.bk (k * 3) (by omega)
      have h1 := hw.bk (k * 3 + 1) (by omega)
      have h2 := hw.bk (k * 3 + 2) (by omega)
      have f0 := hw.fg (k * 3)
      have f1 := hw.fg (k * 3 + 1)
      have f2 := hw.fg (k * 3 + 2)
      have R := ((hw.putB (k * 3) 0 (by omega)).putB (k * 3 + 1) 0 (by omega)).putB (k * 3 + 2) 0 (by omega)
      have C := ((hch.setG (k * 3) (.int .i64 0)).setG (k * 3 + 1) (.int .i64 0)).setG (k * 3 + 2) (.int .i64 0)
      clear hw hch h
      go_wp2
      go_roundw
      case rel => exact ⟨k + 1, by omega, by go_num, R.congr (fun _ _ => rfl) (fun i _ => by split <;> split <;> (try split) <;> (try split) <;> (try split) <;> first | rfl | omega), C⟩
      case measure => simp [intOf]; omega
    · have R := hw.congr (B' := fun _ => 0) (fun _ _ => rfl) (fun i hi => (if_pos (by omega)).symm)
      have h0 := hw.c0
      have h1 := hw.c1
      have h2 := hw.c2
      have f0 := hw.fb 0
      have f1 := hw.fb 1
      have f2 := hw.fb 2
      have R' := R.put012 0 0 0
      have C := ((hch.setB 0 (.int .i64 0)).setB 1 (.int .i64 0)).setB 2 (.int .i64 0)
      clear hw R hch h
      go_wp2
      go_end0
      exact ⟨rfl, R', C⟩
theorem clear_any (b g n : Nat) (c f s m p wd : Int) (S B : Nat → Int) (w : World) (h : Win w b g n c f s m p wd S B) (hn : n ≤ 4096) :
    Calls Try.prog 31 #[.pointer (some ⟨b, 0, none⟩)] w fun e w' => e = .returned (.tuple #[]) ∧ Win w' b g n 0 0 0 m (nx (hld p) (flg m 0)) wd (fun _ => nx p 0) (fun _ => 0) ∧ Chg b g w w' := by
  go_enter_defers Try.func31, Try.ntmps31
  go_wp2_with fail
  refine (hold_any b 4 p w h.c4 (h.fb 4)).mono ?_
  rintro e w' ⟨rfl, rfl⟩
  have h1 := h.put4 (hld p)
  have C1 := (Chg.refl b g w).setB 4 (.int .u64 (hld p))
  generalize w.setCell ⟨b, 4, none⟩ (.int .u64 (hld p)) = w1 at h1 C1 ⊢
  go_wp2_with fail
  refine (gather_any b g n c f s m (hld p) wd p S B w1 h1).mono ?_
  rintro e w2 ⟨v, rfl, h2, C2⟩
  go_wp2_with fail
  refine (empty_any b g n c f s m (hld p) wd _ B w2 h2 hn).mono ?_
  rintro e w3 ⟨rfl, h3, C3⟩
  go_wp2
  refine leaves_cons (f := 30) (args := #[.pointer (some ⟨b, 0, none⟩)]) (by simp) (by simp [go_sem]) ?_
  refine (endChange_deferred b 0 m (hld p) .returning w3 h3.c0 h3.c3 h3.c4 (h3.fb 4)).mono ?_
  rintro e u' w4 ⟨rfl, rfl, k, rfl⟩
  exact ⟨_, results_none rfl _ _ _, rfl, (h3.put4 _).drewN k, (C1.trans (C2.trans C3)).trans (((Chg.refl b g w3).setB 4 _).drewN k)⟩
theorem zzclear_any (b g n : Nat) (c f s m p wd : Int) (S B : Nat → Int) (w : World) (h : Win w b g n c f s m p wd S B) (hn : n ≤ 4096) :
    Calls Try.prog 18 #[.pointer (some ⟨b, 0, none⟩)] w fun e w' => e = .returned (.tuple #[]) ∧ Win w' b g n 0 0 0 m (nx (hld p) (flg m 0)) wd (fun _ => nx p 0) (fun _ => 0) ∧ Chg b g w w' := by
  go_enter Try.func18, Try.ntmps18
  go_wp2_with fail
  refine (clear_any b g n c f s m p wd S B w h hn).mono ?_
  rintro e w' ⟨rfl, h', C⟩
  go_wp2
  go_end0
  exact ⟨rfl, h', C⟩
end Go.Proofs.Qxb6613015a
