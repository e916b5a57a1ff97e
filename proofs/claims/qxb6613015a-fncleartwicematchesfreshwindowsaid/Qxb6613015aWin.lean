/-
  Seat b6613015a: the window in memory ('Win'), and newTimeWindow.
-/
import Derived.Test.Qxb6613015aLeaf
import Derived.Laws.Tables
import Derived.Below
import Derived.WalkSmall
namespace Go.Proofs.Qxb6613015a
open Go.RowKit
theorem Try.info53 : (Try.prog.info? 53).map (fun i => (i.zero, i.size, i.bytes)) = some (some (.agg #[.int .i64 0, .int .i64 0, .int .i64 0]), 3, 24) := by kernel_rfl

/-- the zero window's cells from the seventh on -/
def tail72 : List Value := [.bool false, .int .i64 0, .int .i64 0] ++ List.replicate 64 (.int .u8 0) ++ (List.replicate 8 (Value.int .u64 0 :: List.replicate 56 (.int .u8 0))).flatten
def winCells (m wd : Int) (s : Value) : Array Value := (Value.int .i64 0 :: .int .i64 0 :: .int .i64 0 :: .int .i64 m :: .int .u64 0 :: s :: .int .i64 wd :: tail72).toArray
theorem built72 (m wd : Int) (a : Addr) (n : Nat) : Try.prog.built 72 [(0, .agg #[.int .i64 0, .int .i64 0, .int .i64 0, .int .i64 m]), (2, .slice (some a) n n), (3, .int .i64 wd)] = some (winCells m wd (.slice (some a) n n)) := by
  kernel_rfl
theorem winCells_stripe (m wd : Int) (s : Value) (i : Nat) (hi : i < 8) : (winCells m wd s)[74 + 57 * i]? = some (.int .u64 0) := by
  have e : ∀ k, k < 8 → tail72[67 + 57 * k]? = some (.int .u64 0) := by
    intro k hk
    rcases (by omega : k = 0 ∨ k = 1 ∨ k = 2 ∨ k = 3 ∨ k = 4 ∨ k = 5 ∨ k = 6 ∨ k = 7) with rfl | rfl | rfl | rfl | rfl | rfl | rfl | rfl <;> kernel_rfl
  have h := e i hi
  unfold winCells
  rw [show 74 + 57 * i = 67 + 57 * i + 1 + 1 + 1 + 1 + 1 + 1 + 1 from by omega]
  simpa using h

/-- 'build 72' met by its law: the 530 cells stay behind a name -/
theorem wpList_build72 {ops : Array Oper} {rest : List Oper} {o : Oper} {a : Act} {w : World} {Q : Exit → Act → World → Prop} (hg : o.guard = none) (x y z : Operand) (ho : o.op = .build 72 #[(0, x), (2, y), (3, z)])
    (m wd : Int) (ad : Addr) (n : Nat) (hx : a.eval x = .agg #[.int .i64 0, .int .i64 0, .int .i64 0, .int .i64 m]) (hy : a.eval y = .slice (some ad) n n) (hz : a.eval z = .int .i64 wd)
    (h : wpList Try.prog ops Q rest (a.put o.dst (.agg (winCells m wd (.slice (some ad) n n)))) w) : wpList Try.prog ops Q (o :: rest) a w := by
  have e : (#[(0, x), (2, y), (3, z)].map fun (q : Nat × Operand) => (q.1, a.eval q.2)).toList = [(0, .agg #[.int .i64 0, .int .i64 0, .int .i64 0, .int .i64 m]), (2, .slice (some ad) n n), (3, .int .i64 wd)] := by
    simp [hx, hy, hz]
  refine wpList_build hg 72 _ ho ?_ ?_
  · show (Try.prog.built 72 ((#[(0, x), (2, y), (3, z)].map fun (q : Nat × Operand) => (q.1, a.eval q.2)).toList)).isSome = true
    rw [e, built72]; rfl
  · show wpList Try.prog ops Q rest (a.put o.dst (.agg ((Try.prog.built 72 ((#[(0, x), (2, y), (3, z)].map fun (q : Nat × Operand) => (q.1, a.eval q.2)).toList)).getD #[]))) w
    rw [e, built72]; exact h
theorem wpList_boxAgg {P : Program} {ops : Array Oper} {rest : List Oper} {o : Oper} {a : Act} {w : World} {Q : Exit → Act → World → Prop} (hg : o.guard = none) (t : TypeId) (x : Operand) (ho : o.op = .box t x)
    (cells : Array Value) (hx : a.eval x = .agg cells)
    (h : wpList P ops Q rest (a.put o.dst (.pointer (some ⟨w.heap.size, 0, none⟩))) (w.alloc (.cells cells t))) : wpList P ops Q (o :: rest) a w := by
  refine wpList_plain hg fun K hK => ?_
  unfold Oper.wp execOp
  simp only [ho, hx, Value.cells, Sem.run_bind, Instr.box, newVar, newRow, run_newObj_alloc, Sem.run_pure, Result.andThen_ok]
  exact hK _ _ h

/-- THE WINDOW AT BLOCK b, its buckets at block g -/
structure Win (w : World) (b g n : Nat) (c f s m p wd : Int) (S : Nat → Int) (B : Nat → Int) : Prop where
  c0 : w.cell? ⟨b, 0, none⟩ = some (.int .i64 c)
  c1 : w.cell? ⟨b, 1, none⟩ = some (.int .i64 f)
  c2 : w.cell? ⟨b, 2, none⟩ = some (.int .i64 s)
  c3 : w.cell? ⟨b, 3, none⟩ = some (.int .i64 m)
  c4 : w.cell? ⟨b, 4, none⟩ = some (.int .u64 p)
  c5 : w.cell? ⟨b, 5, none⟩ = some (.slice (some ⟨g, 0, none⟩) n n)
  c6 : w.cell? ⟨b, 6, none⟩ = some (.int .i64 wd)
  st : ∀ i, i < 8 → w.cell? ⟨b, 74 + 57 * i, none⟩ = some (.int .u64 (S i))
  bk : ∀ i, i < n * 3 → w.cell? ⟨g, i, none⟩ = some (.int .i64 (B i))
  fb : ∀ o, w.frozen? ⟨b, o, none⟩ = false
  fg : ∀ o, w.frozen? ⟨g, o, none⟩ = false
  ne : ¬ b = g
  lb : b < w.heap.size
  lg : g < w.heap.size

section
variable {w : World} {b g n : Nat} {c f s m p wd : Int} {S B : Nat → Int}
theorem Win.drewN (h : Win w b g n c f s m p wd S B) (k : Nat) : Win (w.drewN k) b g n c f s m p wd S B :=
  ⟨h.c0, h.c1, h.c2, h.c3, h.c4, h.c5, h.c6, h.st, h.bk, h.fb, h.fg, h.ne, h.lb, h.lg⟩
theorem other (w : World) {b b' o o' : Nat} (v : Value) (h : ¬ b = b' ∨ ¬ o = o') : (w.setCell ⟨b, o, none⟩ v).cell? ⟨b', o', none⟩ = w.cell? ⟨b', o', none⟩ :=
  World.cell?_setCell_other w _ _ v (by simp only [ne_eq, Addr.mk.injEq, and_true, not_and]; omega)
theorem Win.put4 (h : Win w b g n c f s m p wd S B) (p' : Int) : Win (w.setCell ⟨b, 4, none⟩ (.int .u64 p')) b g n c f s m p' wd S B where
  c0 := (other w _ (by omega)).trans h.c0
  c1 := (other w _ (by omega)).trans h.c1
  c2 := (other w _ (by omega)).trans h.c2
  c3 := (other w _ (by omega)).trans h.c3
  c4 := World.cell?_setCell_same w _ _ h.c4
  c5 := (other w _ (by omega)).trans h.c5
  c6 := (other w _ (by omega)).trans h.c6
  st := fun i hi => (other w _ (by omega)).trans (h.st i hi)
  bk := fun i hi => (other w _ (.inl h.ne)).trans (h.bk i hi)
  fb := fun o => by simpa using h.fb o
  fg := fun o => by simpa using h.fg o
  ne := h.ne
  lb := by simpa using h.lb
  lg := by simpa using h.lg
end

theorem made_zero (n j : Nat) (h : j < n * 3) : (madeCells (Value.agg #[.int .i64 0, .int .i64 0, .int .i64 0]).cells (n * 3)).toList[j]? = some (.int .i64 0) := by
  have hz : ∀ k, k < 3 → (Value.agg #[.int .i64 0, .int .i64 0, .int .i64 0]).cells[k]! = .int .i64 0 := by
    intro k hk
    rcases (by omega : k = 0 ∨ k = 1 ∨ k = 2) with rfl | rfl | rfl <;> rfl
  have h3 : (Value.agg #[.int .i64 0, .int .i64 0, .int .i64 0]).cells.size = 3 := rfl
  simp only [madeCells, Array.toList_map, List.getElem?_map, Array.toList_range, List.getElem?_range h, Option.map_some, h3]
  rw [hz _ (Nat.mod_lt _ (by omega))]

theorem win_fresh {w w1 : World} {n : Nat} {m wd : Int}
    (hown : w1.ownsRow w.heap.size 53 3 (.slice (some ⟨w.heap.size, 0, none⟩) n n) n (madeCells (Value.agg #[.int .i64 0, .int .i64 0, .int .i64 0]).cells (n * 3)).toList) :
    Win (w1.alloc (.cells (winCells m wd (.slice (some ⟨w.heap.size, 0, none⟩) n n)) 72)) w1.heap.size w.heap.size n 0 0 0 m 0 wd (fun _ => 0) (fun _ => 0) := by
  have hlt : w.heap.size < w1.heap.size := (hown.lt _ rfl).2
  refine ⟨?_, ?_, ?_, ?_, ?_, ?_, ?_, ?_, ?_, ?_, ?_, ?_, ?_, ?_⟩
  · rw [World.cell?_alloc_at _ _ _ _ rfl]; simp [winCells]
  · rw [World.cell?_alloc_at _ _ _ _ rfl]; simp [winCells]
  · rw [World.cell?_alloc_at _ _ _ _ rfl]; simp [winCells]
  · rw [World.cell?_alloc_at _ _ _ _ rfl]; simp [winCells]
  · rw [World.cell?_alloc_at _ _ _ _ rfl]; simp [winCells]
  · rw [World.cell?_alloc_at _ _ _ _ rfl]; simp [winCells]
  · rw [World.cell?_alloc_at _ _ _ _ rfl]; simp [winCells]
  · intro i hi; rw [World.cell?_alloc_at _ _ _ _ rfl]; exact winCells_stripe m wd _ i hi
  · intro i hi; rw [World.cell?_alloc_past _ _ _ hlt, hown.cellAt i hi]; exact made_zero n i hi
  · intro o; exact World.frozen?_alloc_at _ _ _ _ rfl
  · intro o; rw [World.frozen?_alloc_past _ _ _ hlt]; exact hown.frozenAt o
  · omega
  · simp
  · simp; omega

theorem new_any (n : Nat) (m wd : Int) (w : World) (hn : n ≤ 4096) :
    Calls Try.prog 28 #[.int .i64 n, .int .i64 m, .int .i64 wd] w fun e w' => ∃ b g, e = .returned (.pointer (some ⟨b, 0, none⟩)) ∧ Win w' b g n 0 0 0 m (nx 0 (flg m 0)) wd (fun _ => 0) (fun _ => 0) ∧
      w.heap.size ≤ b ∧ w.heap.size ≤ g ∧ Below w.heap.size w w' := by
  obtain ⟨i0, hi, hz0, hz1, hz2⟩ := info_parts Try.info53
  go_enter Try.func28, Try.ntmps28
  go_wp2_with (first | (at_make; refine wpList_make_full _ rfl _ _ 63 rfl w.heap.size 53 i0 _ 3 Try.underlying63 hi hz0 hz1 _ _ _ _ n rfl rfl rfl rfl (by rw [hz2]; omega) (by unfold maxLen; omega) (Nat.le_refl _) ?_; intro w1 hown hgrow) | (refine wpList_build72 rfl (.tmp 9) (.tmp 11) (.tmp 12) rfl _ _ _ _ rfl rfl rfl ?_) | (refine wpList_boxAgg rfl 72 (.tmp 13) rfl _ rfl ?_))
  have hw := win_fresh (m := m) (wd := wd) hown
  have hlt : w.heap.size < w1.heap.size := (hown.lt _ rfl).2
  have hbel : Below w.heap.size w (w1.alloc (.cells (winCells m wd (.slice (some ⟨w.heap.size, 0, none⟩) n n)) 72)) := ((Below.refl w.heap.size w).grown hgrow (Nat.le_refl _) (by simp)).alloc (by omega) _
  refine (endChange_any w1.heap.size 0 m 0 _ hw.c0 hw.c3 hw.c4 (hw.fb 4)).mono ?_
  rintro e w' ⟨rfl, k, rfl⟩
  have hw' := (hw.put4 (nx 0 (flg m 0))).drewN k
  have hb' := below_drewN (hbel.setCell (p := ⟨w1.heap.size, 4, none⟩) (by exact Nat.le_of_lt hlt) (.int .u64 (nx 0 (flg m 0)))) k
  generalize ((w1.alloc (.cells (winCells m wd (.slice (some ⟨w.heap.size, 0, none⟩) n n)) 72)).setCell ⟨w1.heap.size, 4, none⟩ (.int .u64 (nx 0 (flg m 0)))).drewN k = w2 at hw' hb' ⊢
  clear hw hown hgrow hbel
  go_wp2
  go_ret
  exact ⟨_, _, rfl, hw', Nat.le_of_lt hlt, Nat.le_refl _, hb'⟩
theorem zznew_any (n : Nat) (m wd : Int) (w : World) (hn : n ≤ 4096) :
    Calls Try.prog 10 #[.int .i64 n, .int .i64 m, .int .i64 wd] w fun e w' => ∃ b g, e = .returned (.pointer (some ⟨b, 0, none⟩)) ∧ Win w' b g n 0 0 0 m (nx 0 (flg m 0)) wd (fun _ => 0) (fun _ => 0) ∧
      w.heap.size ≤ b ∧ w.heap.size ≤ g ∧ Below w.heap.size w w' := by
  go_enter Try.func10, Try.ntmps10
  go_wp2_with fail
  refine (new_any n m wd w hn).mono ?_
  rintro e w' ⟨b, g, rfl, hw, hb, hg, hbel⟩
  go_wp2
  go_ret
  exact ⟨_, _, rfl, hw, hb, hg, hbel⟩
end Go.Proofs.Qxb6613015a
