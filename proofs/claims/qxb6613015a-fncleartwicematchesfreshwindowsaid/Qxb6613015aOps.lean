/-
  Seat b6613015a: the window's small functions, each by a contract over 'Win'.
-/
import Derived.Test.Qxb6613015aWin
import Derived.Defers
namespace Go.Proofs.Qxb6613015a
open Go.RowKit

/-- nothing below both of the window's blocks has turned -/
structure Chg (b g : Nat) (w w' : World) : Prop where
  bel : ∀ B, B ≤ b → B ≤ g → Below B w w'
  oth : ∀ x o, ¬ x = b → ¬ x = g → w'.cell? ⟨x, o, none⟩ = w.cell? ⟨x, o, none⟩
theorem Chg.refl (b g : Nat) (w : World) : Chg b g w w := ⟨fun _ _ _ => Below.refl _ _, fun _ _ _ _ => rfl⟩
theorem Chg.trans {b g : Nat} {w w1 w2 : World} (h : Chg b g w w1) (k : Chg b g w1 w2) : Chg b g w w2 := ⟨fun B h1 h2 => (h.bel B h1 h2).trans (k.bel B h1 h2), fun x o h1 h2 => (k.oth x o h1 h2).trans (h.oth x o h1 h2)⟩
theorem Chg.drewN {b g : Nat} {w w1 : World} (h : Chg b g w w1) (k : Nat) : Chg b g w (w1.drewN k) := ⟨fun B h1 h2 => below_drewN (h.bel B h1 h2) k, fun x o h1 h2 => h.oth x o h1 h2⟩
theorem Chg.setB {b g : Nat} {w w1 : World} (h : Chg b g w w1) (o : Nat) (v : Value) : Chg b g w (w1.setCell ⟨b, o, none⟩ v) :=
  ⟨fun B h1 h2 => (h.bel B h1 h2).setCell (by exact h1) v, fun x o' h1 h2 => (World.cell?_setCell_other w1 _ _ v (by simp only [ne_eq, Addr.mk.injEq, and_true, not_and]; omega)).trans (h.oth x o' h1 h2)⟩
theorem Chg.setG {b g : Nat} {w w1 : World} (h : Chg b g w w1) (o : Nat) (v : Value) : Chg b g w (w1.setCell ⟨g, o, none⟩ v) :=
  ⟨fun B h1 h2 => (h.bel B h1 h2).setCell (by exact h2) v, fun x o' h1 h2 => (World.cell?_setCell_other w1 _ _ v (by simp only [ne_eq, Addr.mk.injEq, and_true, not_and]; omega)).trans (h.oth x o' h1 h2)⟩

section
variable {w w' : World} {b g n : Nat} {c f s m p wd : Int} {S B : Nat → Int}
theorem Win.below (h : Win w b g n c f s m p wd S B) {K : Nat} (hb : Below K w w') (h1 : b < K) (h2 : g < K) : Win w' b g n c f s m p wd S B where
  c0 := (hb.cell (p := ⟨b, _, none⟩) h1).trans h.c0
  c1 := (hb.cell (p := ⟨b, _, none⟩) h1).trans h.c1
  c2 := (hb.cell (p := ⟨b, _, none⟩) h1).trans h.c2
  c3 := (hb.cell (p := ⟨b, _, none⟩) h1).trans h.c3
  c4 := (hb.cell (p := ⟨b, _, none⟩) h1).trans h.c4
  c5 := (hb.cell (p := ⟨b, _, none⟩) h1).trans h.c5
  c6 := (hb.cell (p := ⟨b, _, none⟩) h1).trans h.c6
  st := fun i hi => (hb.cell (p := ⟨b, _, none⟩) h1).trans (h.st i hi)
  bk := fun i hi => (hb.cell (p := ⟨g, _, none⟩) h2).trans (h.bk i hi)
  fb := fun o => (hb.frozen (p := ⟨b, _, none⟩) h1).trans (h.fb o)
  fg := fun o => (hb.frozen (p := ⟨g, _, none⟩) h2).trans (h.fg o)
  ne := h.ne
  lb := Nat.lt_of_lt_of_le h.lb hb.size
  lg := Nat.lt_of_lt_of_le h.lg hb.size
/-- the totals are stored -/
theorem Win.put012 (h : Win w b g n c f s m p wd S B) (c' f' s' : Int) : Win (((w.setCell ⟨b, 0, none⟩ (.int .i64 c')).setCell ⟨b, 1, none⟩ (.int .i64 f')).setCell ⟨b, 2, none⟩ (.int .i64 s')) b g n c' f' s' m p wd S B where
  c0 := (other _ _ (by omega)).trans ((other _ _ (by omega)).trans (World.cell?_setCell_same w _ _ h.c0))
  c1 := (other _ _ (by omega)).trans (World.cell?_setCell_same _ _ _ ((other _ _ (by omega)).trans h.c1))
  c2 := World.cell?_setCell_same _ _ _ ((other _ _ (by omega)).trans ((other _ _ (by omega)).trans h.c2))
  c3 := (other _ _ (by omega)).trans ((other _ _ (by omega)).trans ((other _ _ (by omega)).trans h.c3))
  c4 := (other _ _ (by omega)).trans ((other _ _ (by omega)).trans ((other _ _ (by omega)).trans h.c4))
  c5 := (other _ _ (by omega)).trans ((other _ _ (by omega)).trans ((other _ _ (by omega)).trans h.c5))
  c6 := (other _ _ (by omega)).trans ((other _ _ (by omega)).trans ((other _ _ (by omega)).trans h.c6))
  st := fun i hi => (other _ _ (by omega)).trans ((other _ _ (by omega)).trans ((other _ _ (by omega)).trans (h.st i hi)))
  bk := fun i hi => (other _ _ (.inl h.ne)).trans ((other _ _ (.inl h.ne)).trans ((other _ _ (.inl h.ne)).trans (h.bk i hi)))
  fb := fun o => by simpa using h.fb o
  fg := fun o => by simpa using h.fg o
  ne := h.ne
  lb := by simpa using h.lb
  lg := by simpa using h.lg
/-- one cell of a bucket is stored -/
theorem Win.putB (h : Win w b g n c f s m p wd S B) (j : Nat) (x : Int) (hj : j < n * 3) : Win (w.setCell ⟨g, j, none⟩ (.int .i64 x)) b g n c f s m p wd S (fun i => if i = j then x else B i) where
  c0 := (other w _ (.inl (Ne.symm h.ne))).trans h.c0
  c1 := (other w _ (.inl (Ne.symm h.ne))).trans h.c1
  c2 := (other w _ (.inl (Ne.symm h.ne))).trans h.c2
  c3 := (other w _ (.inl (Ne.symm h.ne))).trans h.c3
  c4 := (other w _ (.inl (Ne.symm h.ne))).trans h.c4
  c5 := (other w _ (.inl (Ne.symm h.ne))).trans h.c5
  c6 := (other w _ (.inl (Ne.symm h.ne))).trans h.c6
  st := fun i hi => (other w _ (.inl (Ne.symm h.ne))).trans (h.st i hi)
  bk := fun i hi => by
    by_cases hij : i = j
    · subst hij; simp only [if_true]; exact World.cell?_setCell_same w _ _ (h.bk i hi)
    · simp only [if_neg hij]; exact (other w _ (.inr (Ne.symm hij))).trans (h.bk i hi)
  fb := fun o => by simpa using h.fb o
  fg := fun o => by simpa using h.fg o
  ne := h.ne
  lb := by simpa using h.lb
  lg := by simpa using h.lg
/-- one stripe's word is stored -/
theorem Win.putS (h : Win w b g n c f s m p wd S B) (j : Nat) (x : Int) (hj : j < 8) : Win (w.setCell ⟨b, 74 + 57 * j, none⟩ (.int .u64 x)) b g n c f s m p wd (fun i => if i = j then x else S i) B where
  c0 := (other w _ (by omega)).trans h.c0
  c1 := (other w _ (by omega)).trans h.c1
  c2 := (other w _ (by omega)).trans h.c2
  c3 := (other w _ (by omega)).trans h.c3
  c4 := (other w _ (by omega)).trans h.c4
  c5 := (other w _ (by omega)).trans h.c5
  c6 := (other w _ (by omega)).trans h.c6
  st := fun i hi => by
    by_cases hij : i = j
    · subst hij; simp only [if_true]; exact World.cell?_setCell_same w _ _ (h.st i hi)
    · simp only [if_neg hij]; exact (other w _ (by omega)).trans (h.st i hi)
  bk := fun i hi => (other w _ (.inl h.ne)).trans (h.bk i hi)
  fb := fun o => by simpa using h.fb o
  fg := fun o => by simpa using h.fg o
  ne := h.ne
  lb := by simpa using h.lb
  lg := by simpa using h.lg
theorem Win.congr {S' B' : Nat → Int} (h : Win w b g n c f s m p wd S B) (hS : ∀ i, i < 8 → S' i = S i) (hB : ∀ i, i < n * 3 → B' i = B i) : Win w b g n c f s m p wd S' B' :=
  ⟨h.c0, h.c1, h.c2, h.c3, h.c4, h.c5, h.c6, fun i hi => by rw [hS i hi]; exact h.st i hi, fun i hi => by rw [hB i hi]; exact h.bk i hi, h.fb, h.fg, h.ne, h.lb, h.lg⟩
end

/-! ### the readers -/
theorem posn_any (b : Nat) (p : Int) (w : World) (h4 : w.cell? ⟨b, 4, none⟩ = some (.int .u64 p)) :
    Calls Try.prog 11 #[.pointer (some ⟨b, 0, none⟩)] w fun e w' => e = .returned (.int .u64 p) ∧ w' = w := by
  go_enter Try.func11, Try.ntmps11
  go_wp2_with fail
  refine (gload_any b 4 p w h4).mono ?_
  rintro e w' ⟨rfl, rfl⟩
  go_wp2
  go_ret
  exact ⟨rfl, rfl⟩
theorem len_any (b : Nat) (a : Addr) (n : Nat) (w : World) (h5 : w.cell? ⟨b, 5, none⟩ = some (.slice (some a) n n)) :
    Calls Try.prog 12 #[.pointer (some ⟨b, 0, none⟩)] w fun e w' => e = .returned (.int .i64 n) ∧ w' = w := by
  go_enter Try.func12, Try.ntmps12
  go_wp2
  go_ret
  exact ⟨rfl, rfl⟩
theorem minimum_any (b : Nat) (m : Int) (w : World) (h3 : w.cell? ⟨b, 3, none⟩ = some (.int .i64 m)) :
    Calls Try.prog 19 #[.pointer (some ⟨b, 0, none⟩)] w fun e w' => e = .returned (.int .i64 m) ∧ w' = w := by
  go_enter Try.func19, Try.ntmps19
  go_wp2
  go_ret
  exact ⟨rfl, rfl⟩
theorem width_any (b : Nat) (m : Int) (w : World) (h6 : w.cell? ⟨b, 6, none⟩ = some (.int .i64 m)) :
    Calls Try.prog 20 #[.pointer (some ⟨b, 0, none⟩)] w fun e w' => e = .returned (.int .i64 m) ∧ w' = w := by
  go_enter Try.func20, Try.ntmps20
  go_wp2
  go_ret
  exact ⟨rfl, rfl⟩
theorem tally_any (b : Nat) (c f s : Int) (w : World) (h0 : w.cell? ⟨b, 0, none⟩ = some (.int .i64 c)) (h1 : w.cell? ⟨b, 1, none⟩ = some (.int .i64 f)) (h2 : w.cell? ⟨b, 2, none⟩ = some (.int .i64 s)) :
    Calls Try.prog 22 #[.pointer (some ⟨b, 0, none⟩)] w fun e w' => e = .returned (.tuple #[.int .i64 c, .int .i64 f, .int .i64 s]) ∧ ∃ n, w' = w.drewN n := by
  go_enter Try.func22, Try.ntmps22
  go_wp2
  go_quiet (fail)
  go_wp2
  go_ret3
  exact ⟨rfl, _, rfl⟩
theorem bucket_any (b g n i : Nat) (x y z : Int) (w : World) (hi : i < n) (_hn : n ≤ 4096) (h5 : w.cell? ⟨b, 5, none⟩ = some (.slice (some ⟨g, 0, none⟩) n n))
    (h0 : w.cell? ⟨g, i * 3, none⟩ = some (.int .i64 x)) (h1 : w.cell? ⟨g, i * 3 + 1, none⟩ = some (.int .i64 y)) (h2 : w.cell? ⟨g, i * 3 + 2, none⟩ = some (.int .i64 z)) :
    Calls Try.prog 21 #[.pointer (some ⟨b, 0, none⟩), .int .i64 i] w fun e w' => e = .returned (.tuple #[.int .i64 x, .int .i64 y, .int .i64 z]) ∧ Below w.heap.size w w' := by
  go_enter Try.func21, Try.ntmps21
  go_wp2
  go_quiet (fail)
  go_wp2
  go_ret3
  exact ⟨rfl, below_drewN ((Below.refl _ _).alloc (Nat.le_refl _) _) _⟩
theorem stripe_any (b i : Nat) (x : Int) (w : World) (hi : i < 8) (h : w.cell? ⟨b, 74 + 57 * i, none⟩ = some (.int .u64 x)) :
    Calls Try.prog 23 #[.pointer (some ⟨b, 0, none⟩), .int .i64 i] w fun e w' => e = .returned (.int .u64 x) ∧ w' = w := by
  rw [Nat.mul_comm] at h
  go_enter Try.func23, Try.ntmps23
  go_wp2_with fail
  refine (uload_any b _ x w h).mono ?_
  rintro e w' ⟨rfl, rfl⟩
  go_wp2
  go_ret
  exact ⟨rfl, rfl⟩

/-! ### the writers -/
theorem setTally_any (b g n : Nat) (c f s m p wd c' f' s' : Int) (S B : Nat → Int) (w : World) (h : Win w b g n c f s m p wd S B) :
    Calls Try.prog 16 #[.pointer (some ⟨b, 0, none⟩), .int .i64 c', .int .i64 f', .int .i64 s'] w fun e w' => e = .returned (.tuple #[]) ∧ Win w' b g n c' f' s' m p wd S B ∧ Chg b g w w' := by
  have h0 := h.c0
  have h1 := h.c1
  have h2 := h.c2
  have f0 := h.fb 0
  have f1 := h.fb 1
  have f2 := h.fb 2
  have R := h.put012 c' f' s'
  have C := (((Chg.refl b g w).setB 0 (.int .i64 c')).setB 1 (.int .i64 f')).setB 2 (.int .i64 s')
  clear h
  go_enter Try.func16, Try.ntmps16
  go_wp2
  go_end0
  exact ⟨rfl, R, C⟩
theorem setBucket_any (b g n i : Nat) (c f s m p wd x y z : Int) (S B : Nat → Int) (w : World) (h : Win w b g n c f s m p wd S B) (hi : i < n) (_hn : n ≤ 4096) :
    Calls Try.prog 15 #[.pointer (some ⟨b, 0, none⟩), .int .i64 i, .int .i64 x, .int .i64 y, .int .i64 z] w fun e w' => e = .returned (.tuple #[]) ∧
      Win w' b g n c f s m p wd S (fun j => if j = i * 3 + 2 then z else if j = i * 3 + 1 then y else if j = i * 3 then x else B j) ∧ Chg b g w w' := by
  have h5 := h.c5
  have h0 := h.bk (i * 3) (by omega)
  have h1 := h.bk (i * 3 + 1) (by omega)
  have h2 := h.bk (i * 3 + 2) (by omega)
  have f0 := h.fg (i * 3)
  have f1 := h.fg (i * 3 + 1)
  have f2 := h.fg (i * 3 + 2)
  have R := ((h.putB (i * 3) x (by omega)).putB (i * 3 + 1) y (by omega)).putB (i * 3 + 2) z (by omega)
  have C := (((Chg.refl b g w).setG (i * 3) (.int .i64 x)).setG (i * 3 + 1) (.int .i64 y)).setG (i * 3 + 2) (.int .i64 z)
  clear h
  go_enter Try.func15, Try.ntmps15
  go_wp2
  go_end0
  exact ⟨rfl, R, C⟩
theorem endC_any (b g n : Nat) (c f s m p wd : Int) (S B : Nat → Int) (w : World) (h : Win w b g n c f s m p wd S B) :
    Calls Try.prog 17 #[.pointer (some ⟨b, 0, none⟩)] w fun e w' => e = .returned (.tuple #[]) ∧ Win w' b g n c f s m (nx p (flg m c)) wd S B ∧ Chg b g w w' := by
  go_enter Try.func17, Try.ntmps17
  go_wp2_with fail
  refine (endChange_any b c m p w h.c0 h.c3 h.c4 (h.fb 4)).mono ?_
  rintro e w' ⟨rfl, k, rfl⟩
  have R := (h.put4 (nx p (flg m c))).drewN k
  have C := ((Chg.refl b g w).setB 4 (.int .u64 (nx p (flg m c)))).drewN k
  clear h
  go_wp2
  go_end0
  exact ⟨rfl, R, C⟩
theorem endChange_deferred (b : Nat) (c m p : Int) (u : FrameMode) (w : World) (h0 : w.cell? ⟨b, 0, none⟩ = some (.int .i64 c)) (h3 : w.cell? ⟨b, 3, none⟩ = some (.int .i64 m))
    (h4 : w.cell? ⟨b, 4, none⟩ = some (.int .u64 p)) (f4 : w.frozen? ⟨b, 4, none⟩ = false) :
    CallsD Try.prog 30 #[.pointer (some ⟨b, 0, none⟩)] u w fun e u' w' => u' = u ∧ (e = .returned (.tuple #[]) ∧ ∃ n, w' = (w.setCell ⟨b, 4, none⟩ (.int .u64 (nx p (flg m c)))).drewN n) := by
  go_enter_d Try.func30, Try.ntmps30
  go_wp2_with fail
  refine (judged_any b c m w h0 h3).mono ?_
  rintro e w' ⟨rfl, n, rfl⟩
  by_cases hmc : m ≤ c
  all_goals
    go_wp2_with fail
    go_region_with (first | (go_at_call 29; refine (gload_any b 4 p _ (by simpa using h4)).mono ?_; rintro e w' ⟨rfl, rfl⟩) | (go_at_call 25; refine (next_any _ _ _).mono ?_; rintro e w' ⟨rfl, rfl⟩) | (go_at_call 34; refine (gstore_any b 4 _ (.int .u64 p) _ (by simpa using h4) (by simpa using f4)).mono ?_; rintro e w' ⟨rfl, rfl⟩))
    go_wp2
    go_end0
    first | rw [flg_yes hmc] | rw [flg_no hmc]
    exact ⟨rfl, n + 1, rfl⟩
end Go.Proofs.Qxb6613015a
