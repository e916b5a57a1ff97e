/-
  Seat b6613043aD: the registry in memory, and its small readers.
-/
import Derived.Test.Qxb6613043aDoorSearch
import Derived.Test.Qxb6613043aDoorInsertAny
import Derived.Test.Qxb6613043aDoorLocks
import Derived.Conc.MuLone
namespace Go.Proofs.Qxb6613043aDoor
open Go.RowKit

def ptrs (Q : Nat → Nat) (n : Nat) : List Value := (List.range n).map fun i => ptr (Q i)
theorem ptrs_get (Q : Nat → Nat) (n i : Nat) : (ptrs Q n)[i]? = if i < n then some (ptr (Q i)) else none := by
  unfold ptrs
  by_cases h : i < n
  · simp [h]
  · simp [h]
theorem ptrs_length (Q : Nat → Nat) (n : Nat) : (ptrs Q n).length = n := by simp [ptrs]
theorem ptrs_one (Q : Nat → Nat) (n : Nat) : ∀ x ∈ ptrs Q n, x.oneCell' = true := by
  intro x hx
  obtain ⟨i, _, rfl⟩ := List.mem_map.1 hx
  rfl

/-- THE REGISTRY AT BLOCK rb: its lock's state, its entries' slice v, the entries' blocks Q, and what they hold -/
structure Reg (w : World) (B rb : Nat) (st : Int) (v : Value) (Q : Nat → Nat) (L : List Ent) : Prop where
  blk : w.heap[rb]? = some (.cells #[.int .i32 st, .int .u32 0, v] 43 (0, 0))
  row : w.ownsRow B 59 1 v L.length (ptrs Q L.length)
  ent : ∀ (i : Nat) (e : Ent), L[i]? = some e → ∃ m, w.heap[Q i]? = some (.cells #[.string e.1, .string e.2, m] 58 (0, 0))
  le : B ≤ rb
  cov : B ≤ w.heap.size

section
variable {w w' : World} {B rb : Nat} {st : Int} {v : Value} {Q : Nat → Nat} {L : List Ent}
theorem Reg.lt (h : Reg w B rb st v Q L) : rb < w.heap.size := (Array.getElem?_eq_some_iff.1 h.blk).1
theorem Reg.c0 (h : Reg w B rb st v Q L) : w.cell? ⟨rb, 0, none⟩ = some (.int .i32 st) := by rw [cell_of_row w rb 0 _ 43 (0, 0) h.blk]; rfl
theorem Reg.c2 (h : Reg w B rb st v Q L) : w.cell? ⟨rb, 2, none⟩ = some v := by rw [cell_of_row w rb 2 _ 43 (0, 0) h.blk]; rfl
theorem Reg.fz (h : Reg w B rb st v Q L) (o : Nat) : w.frozen? ⟨rb, o, none⟩ = false := frozen_of_row w rb o _ 43 h.blk
theorem Reg.name (h : Reg w B rb st v Q L) (i : Nat) (e : Ent) (hi : L[i]? = some e) : w.cell? ⟨Q i, 0, none⟩ = some (.string e.1) := by
  obtain ⟨m, hm⟩ := h.ent i e hi
  rw [cell_of_row w (Q i) 0 _ 58 (0, 0) hm]; rfl
theorem Reg.help (h : Reg w B rb st v Q L) (i : Nat) (e : Ent) (hi : L[i]? = some e) : w.cell? ⟨Q i, 1, none⟩ = some (.string e.2) := by
  obtain ⟨m, hm⟩ := h.ent i e hi
  rw [cell_of_row w (Q i) 1 _ 58 (0, 0) hm]; rfl
/-- all blocks but the lock's own as they were -/
theorem Reg.kept (h : Reg w B rb st v Q L) (hb : ∀ k, k < w.heap.size → w'.heap[k]? = w.heap[k]?) (hs : w.heap.size ≤ w'.heap.size) : Reg w' B rb st v Q L where
  blk := (hb rb h.lt).trans h.blk
  row := by
    refine ⟨h.row.1, ?_⟩
    rcases h.row.2 with k | ⟨g, cap, cur, h1, h2, h3, h4⟩
    · exact .inl k
    · exact .inr ⟨g, cap, cur, h1, h2, (hb g (Array.getElem?_eq_some_iff.1 h3).1).trans h3, h4⟩
  ent := fun i e hi => by
    obtain ⟨m, hm⟩ := h.ent i e hi
    exact ⟨m, (hb _ (Array.getElem?_eq_some_iff.1 hm).1).trans hm⟩
  le := h.le
  cov := Nat.le_trans h.cov hs
theorem Reg.below (h : Reg w B rb st v Q L) {K : Nat} (hb : Below K w w') (hK : w.heap.size ≤ K) : Reg w' B rb st v Q L :=
  h.kept (fun k hk => hb.block k (by omega)) hb.size
/-- the lock's word is stored -/
theorem Reg.lock (h : Reg w B rb st v Q L) (st' : Int) : Reg (w.setCell ⟨rb, 0, none⟩ (.int .i32 st')) B rb st' v Q L where
  blk := by
    have := heap_setCell_same w rb 0 _ 43 (.int .i32 st') h.blk
    simpa using this
  row := by
    refine ⟨h.row.1, ?_⟩
    rcases h.row.2 with k | ⟨g, cap, cur, h1, h2, h3, h4⟩
    · exact .inl k
    · refine .inr ⟨g, cap, cur, h1, h2, ?_, h4⟩
      rw [Below.heap_setCell w ⟨rb, 0, none⟩ _ g (fun e => by subst e; have := h.blk; rw [h3] at this; simp at this)]
      exact h3
  ent := fun i e hi => by
    obtain ⟨m, hm⟩ := h.ent i e hi
    refine ⟨m, ?_⟩
    rw [Below.heap_setCell w ⟨rb, 0, none⟩ _ (Q i) (fun e => by have := h.blk; rw [show rb = Q i from e.symm, hm] at this; simp at this)]
    exact hm
  le := h.le
  cov := by simpa using h.cov
/-- the slice of entries, opened -/
theorem Reg.open_row (h : Reg w B rb st v Q L) : (v = .slice none 0 0 ∧ L = []) ∨ ∃ g cap, v = .slice (some ⟨g, 0, none⟩) L.length cap ∧ L.length ≤ cap ∧ B ≤ g ∧ ∀ i, i < L.length → w.cell? ⟨g, i, none⟩ = some (.pointer (some ⟨Q i, 0, none⟩)) := by
  have hr := h.row
  rcases hr.2 with ⟨k, k0⟩ | ⟨g, cap, cur, h1, h2, h3, h4, h5, h6, h7⟩
  · exact .inl ⟨k, List.eq_nil_of_length_eq_zero k0⟩
  · refine .inr ⟨g, cap, h1, h4, h2, fun i hi => ?_⟩
    rw [h1] at hr
    rw [hr.cellAt i (by omega), ptrs_get, if_pos hi]; rfl
end

/-! ### readers -/
theorem count_any (B rb : Nat) (st : Int) (v : Value) (Q : Nat → Nat) (L : List Ent) (w : World) (h : Reg w B rb st v Q L) :
    Calls Tryd.prog 10 #[.pointer (some ⟨rb, 0, none⟩)] w fun e w' => e = .returned (.int .i64 L.length) ∧ w' = w := by
  have c2 := h.c2
  rcases h.open_row with ⟨rfl, rfl⟩ | ⟨g, cap, rfl, _, _, _⟩
  · clear h
    go_enter Tryd.func10, Tryd.ntmps10
    go_wp2
    go_ret
    exact ⟨rfl, rfl⟩
  · clear h
    go_enter Tryd.func10, Tryd.ntmps10
    go_wp2
    go_ret
    exact ⟨rfl, rfl⟩
theorem entryName_any (B rb : Nat) (st : Int) (v : Value) (Q : Nat → Nat) (L : List Ent) (i : Nat) (e : Ent) (w : World) (h : Reg w B rb st v Q L) (hi : L[i]? = some e) (hn : L.length ≤ 100000) :
    Calls Tryd.prog 11 #[.pointer (some ⟨rb, 0, none⟩), .int .i64 i] w fun e' w' => e' = .returned (.string e.1) ∧ w' = w := by
  have c2 := h.c2
  have hil : i < L.length := (List.getElem?_eq_some_iff.1 hi).1
  rcases h.open_row with ⟨rfl, rfl⟩ | ⟨g, cap, rfl, _, _, hrow⟩
  · simp at hil
  · have c3 := hrow i hil
    have c4 := h.name i e hi
    clear h hrow hi
    go_enter Tryd.func11, Tryd.ntmps11
    go_wp2
    go_ret
    exact ⟨rfl, rfl⟩
theorem entryHelp_any (B rb : Nat) (st : Int) (v : Value) (Q : Nat → Nat) (L : List Ent) (i : Nat) (e : Ent) (w : World) (h : Reg w B rb st v Q L) (hi : L[i]? = some e) (hn : L.length ≤ 100000) :
    Calls Tryd.prog 12 #[.pointer (some ⟨rb, 0, none⟩), .int .i64 i] w fun e' w' => e' = .returned (.string e.2) ∧ w' = w := by
  have c2 := h.c2
  have hil : i < L.length := (List.getElem?_eq_some_iff.1 hi).1
  rcases h.open_row with ⟨rfl, rfl⟩ | ⟨g, cap, rfl, _, _, hrow⟩
  · simp at hil
  · have c3 := hrow i hil
    have c4 := h.help i e hi
    clear h hrow hi
    go_enter Tryd.func12, Tryd.ntmps12
    go_wp2
    go_ret
    exact ⟨rfl, rfl⟩
theorem newReg_any (w : World) : Calls Tryd.prog 6 #[] w fun e w' => e = .returned (.pointer (some ⟨w.heap.size, 0, none⟩)) ∧ Reg w' w.heap.size w.heap.size 0 (.slice none 0 0) (fun _ => 0) [] ∧ Below w.heap.size w w' := by
  have hb := (Below.refl w.heap.size w).alloc (Nat.le_refl _) (.cells #[.int .i32 0, .int .u32 0, .slice none 0 0] 43)
  have hr : Reg (w.alloc (.cells #[.int .i32 0, .int .u32 0, .slice none 0 0] 43)) w.heap.size w.heap.size 0 (.slice none 0 0) (fun _ => 0) [] := ⟨heap_alloc_new w _, World.ownsRow_nil _ _ _ _, fun i e hi => by simp at hi, Nat.le_refl _, by simp⟩
  go_enter Tryd.func6, Tryd.ntmps6
  go_wp2
  go_ret
  exact ⟨rfl, hr, hb⟩
end Go.Proofs.Qxb6613043aDoor
