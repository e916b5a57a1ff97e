/-
  Seat b6613043aD: slices.Insert of one pointer, at whatever place, into a row that the call owns: one contract over 'ownsRow'.
-/
import Derived.Test.Qxb6613043aDoorInsert
namespace Go.Proofs.Qxb6613043aDoor
open Go.RowKit Go.Lib

theorem setCells_grown (b : Nat) : ∀ (vs : List Value) (o : Nat) (w : World), w.grownBy (w.setCells b o vs) (some b)
  | [], _, w => ⟨rfl, rfl, rfl, Nat.le_refl _, fun _ _ _ => rfl⟩
  | v :: r, o, w => by
    have h := setCells_grown b r (o + 1) (w.setCell ⟨b, o, none⟩ v)
    refine ⟨h.os, h.tape, h.output, ?_, fun k hk hne => ?_⟩
    · have := h.size
      simpa [World.setCells] using this
    · rw [World.setCells, h.block k (by simpa using hk) hne]
      exact Below.heap_setCell w ⟨b, o, none⟩ v k (fun e => hne (by rw [e]))
theorem setCells_block (b : Nat) (t : TypeId) : ∀ (vs : List Value) (o : Nat) (w : World) (cur : Array Value), w.heap[b]? = some (.cells cur t (0, 0)) →
    ∃ cur', (w.setCells b o vs).heap[b]? = some (.cells cur' t (0, 0)) ∧ cur'.size = cur.size
  | [], _, _, cur, h => ⟨cur, h, rfl⟩
  | v :: r, o, w, cur, h => by
    obtain ⟨cur', h', hs⟩ := setCells_block b t r (o + 1) (w.setCell ⟨b, o, none⟩ v) (cur.setIfInBounds o v) (heap_setCell_same w b o cur t v h)
    exact ⟨cur', h', by simpa using hs⟩
theorem grown_trans {w w1 w2 : World} {row : Option Nat} (h : w.grownBy w1 row) (k : w1.grownBy w2 row) : w.grownBy w2 row :=
  ⟨k.os.trans h.os, k.tape.trans h.tape, k.output.trans h.output, Nat.le_trans h.size k.size, fun i hi hne => (k.block i (Nat.lt_of_lt_of_le hi h.size) hne).trans (h.block i hi hne)⟩

/-- a row told by its cells -/
theorem owns_of_cells {w : World} {B g n cap : Nat} {cur : Array Value} {xs : List Value} (hB : B ≤ g) (hg : w.heap[g]? = some (.cells cur 59 (0, 0))) (hs : cur.size = cap) (hn : n ≤ cap) (hc : cap ≤ maxLen)
    (hl : xs.length = n) (hx : ∀ j x, xs[j]? = some x → w.cell? ⟨g, j, none⟩ = some x) : w.ownsRow B 59 1 (.slice (some ⟨g, 0, none⟩) n cap) n xs := by
  refine ⟨by omega, .inr ⟨g, cap, cur, rfl, hB, hg, hn, hc, by omega, ?_⟩⟩
  apply List.ext_getElem?
  intro j
  rw [Nat.mul_one, List.getElem?_take]
  by_cases hj : j < n
  · rw [if_pos hj]
    have h1 := hx j _ (List.getElem?_eq_getElem (by omega))
    rw [cell_of_row w g j cur 59 (0, 0) hg] at h1
    rw [List.getElem?_eq_getElem (by omega : j < xs.length), ← h1]
    simp
  · rw [if_neg hj, List.getElem?_eq_none (by omega)]

def ins (xs : List Value) (i : Nat) (q : Value) : List Value := xs.take i ++ q :: xs.drop i
theorem ins_length (xs : List Value) (i : Nat) (q : Value) (h : i ≤ xs.length) : (ins xs i q).length = xs.length + 1 := by
  unfold ins; simp; omega
theorem ins_get (xs : List Value) (i : Nat) (q : Value) (h : i ≤ xs.length) (j : Nat) :
    (ins xs i q)[j]? = if j < i then xs[j]? else if j = i then some q else xs[j - 1]? := by
  unfold ins
  have ht : (xs.take i).length = i := by simp; omega
  by_cases h1 : j < i
  · rw [if_pos h1, List.getElem?_append_left (by omega), List.getElem?_take, if_pos h1]
  · rw [if_neg h1, List.getElem?_append_right (by omega), ht]
    by_cases h2 : j = i
    · rw [if_pos h2, h2]; simp
    · rw [if_neg h2]
      obtain ⟨k, hk⟩ : ∃ k, j - i = k + 1 := ⟨j - i - 1, by omega⟩
      rw [hk, List.getElem?_cons_succ, List.getElem?_drop]
      congr 1; omega

theorem zeros_size (n : Nat) : (Builtin.zeroCells (Value.pointer none).cells n).size = n := by simp [Builtin.zeroCells, Value.cells]

theorem insert_any (B : Nat) (v : Value) (n i vb : Nat) (xs : List Value) (q : Value) (w : World) (hown : w.ownsRow B 59 1 v n xs) (hi : i ≤ n) (hn : n ≤ 100000) (hB : B ≤ w.heap.size)
    (hq : w.heap[vb]? = some (.cells #[q] 59 (0, 0))) (hvb : v.ownBlock ≠ some vb) (hq1 : q.oneCell' = true) (h1 : ∀ x ∈ xs, x.oneCell' = true) :
    Calls Tryd.prog 21 #[v, .int .i64 i, .slice (some ⟨vb, 0, none⟩) 1 1] w fun e w' => ∃ v', e = .returned v' ∧ w'.ownsRow B 59 1 v' (n + 1) (ins xs i q) ∧ w.grownBy w' v.ownBlock ∧ (∀ k, v'.ownBlock = some k → v.ownBlock = some k ∨ w.heap.size ≤ k) := by
  have hvs : ∀ j u, [q][j]? = some u → w.cell? ⟨vb, 0 + j, none⟩ = some u := by
    intro j u hj
    rw [cell_of_row w vb (0 + j) #[q] 59 (0, 0) hq]
    match j, hj with
    | 0, hj => simpa using hj
  have h1v : ∀ u ∈ [q], u.oneCell' = true := by intro u hu; simp at hu; subst hu; exact hq1
  obtain ⟨hxl, hcase⟩ := hown
  rw [Nat.mul_one] at hxl
  rcases hcase with ⟨rfl, rfl⟩ | ⟨g, cap, cur, rfl, hBg, hg, hnc, hcm, hcs, htake⟩
  · obtain rfl : xs = [] := List.eq_nil_of_length_eq_zero hxl
    obtain rfl : i = 0 := by omega
    refine (insert_end_grow none 0 0 vb 0 1 1 [] [q] w (by omega) (by omega) (by omega) (by omega) rfl rfl (fun _ => rfl) (fun _ h => by cases h) hvs h1v).mono ?_
    rintro e w' ⟨rfl, rfl⟩
    have hG : 1 ≤ grownCap w (0 + 1) 0 59 := grownCap_ge w _ _ _
    refine ⟨_, rfl, ?_, ?_, ?_⟩
    · refine owns_of_cells (w := w.drew.alloc _) hB (heap_alloc_new _ _) ?_ (by omega) (grownCap_le_maxLen w _ _ _ (by unfold maxLen; omega)) (by simp [ins]) ?_
      · rw [Array.size_append, zeros_size]; show 1 + _ = _; omega
      · intro j x hj
        rw [World.cell?_alloc_at (w := w.drew) _ _ w.heap.size _ rfl]
        have : j = 0 := by
          have := (List.getElem?_eq_some_iff.1 hj).1
          simp [ins] at this; exact this
        subst this
        simp [ins] at hj
        subst hj
        rw [Array.getElem?_append_left (by simp)]
        rfl
    · exact ⟨rfl, rfl, rfl, by rw [World.size_alloc]; exact Nat.le_succ _, fun k hk _ => Below.heap_alloc w.drew _ k hk⟩
    · intro k hk
      simp [Value.ownBlock] at hk
      exact .inr (by omega)
  · have hcell : ∀ j x, xs[j]? = some x → w.cell? ⟨g, 0 + j, none⟩ = some x := by
      intro j x hj
      have hjl := (List.getElem?_eq_some_iff.1 hj).1
      rw [Nat.zero_add, cell_of_row w g j cur 59 (0, 0) hg]
      rw [← htake, List.getElem?_take, if_pos (by omega)] at hj
      simpa using hj
    have hsome : ∀ j, j < cap → (w.cell? ⟨g, 0 + j, none⟩).isSome = true := by
      intro j hj
      rw [Nat.zero_add, cell_of_row w g j cur 59 (0, 0) hg, Array.getElem?_eq_getElem (by omega)]; rfl
    have hfz : ∀ j, w.frozen? ⟨g, j, none⟩ = false := fun j => frozen_of_row w g j cur 59 hg
    have hne : vb ≠ g := fun e => hvb (by simp [Value.ownBlock, e])
    have hgw : g < w.heap.size := (Array.getElem?_eq_some_iff.1 hg).1
    have hcm' : cap ≤ 9223372036854775807 := by unfold maxLen at hcm; omega
    by_cases hin : i = n
    · subst hin
      by_cases hroom : i + 1 ≤ cap
      · refine (insert_end_room g 0 i cap vb 0 1 1 [q] w (by omega) hroom hcm' rfl (fun j hj => by have := hsome (i + j) (by omega); simpa using this) (fun j _ => hfz _) hvs h1v).mono ?_
        rintro e w' ⟨rfl, rfl⟩
        obtain ⟨cur', hcur', hs'⟩ := setCells_block g 59 [q] (0 + i) w cur hg
        refine ⟨_, rfl, ?_, setCells_grown g _ _ w, fun k hk => .inl hk⟩
        refine owns_of_cells hBg hcur' (by omega) hroom hcm (by rw [ins_length _ _ _ (by omega)]; omega) ?_
        intro j x hj
        rw [ins_get _ _ _ (by omega)] at hj
        by_cases hji : j = i
        · subst hji
          simp at hj
          subst hj
          have := World.cell?_setCells_in g [q] (0 + j) w (fun t ht => by have := hsome (j + t) (by simp at ht; omega); simpa using this) 0 (by simp)
          simpa using this
        · have hjl : j < i := by
            by_cases hlt : j < i
            · exact hlt
            · rw [if_neg hlt, if_neg hji] at hj
              have := (List.getElem?_eq_some_iff.1 hj).1
              omega
          rw [if_pos hjl] at hj
          rw [World.cell?_setCells_out g _ _ _ _ (fun _ _ => by show j < 0 + i ∨ _; omega)]
          simpa using hcell j x hj
      · refine (insert_end_grow (some ⟨g, 0, none⟩) i cap vb 0 1 1 xs [q] w (by omega) hnc (by omega) (by omega) hxl rfl (fun h => by cases h) (fun a ha j x hj => by cases ha; rw [Addr.add_lit]; exact hcell j x hj) hvs h1v).mono ?_
        rintro e w' ⟨rfl, rfl⟩
        have hG : i + 1 ≤ grownCap w (i + 1) cap 59 := grownCap_ge w _ _ _
        refine ⟨_, rfl, ?_, ?_, ?_⟩
        · refine owns_of_cells (w := w.drew.alloc _) hB (heap_alloc_new _ _) ?_ hG (grownCap_le_maxLen w _ _ _ (by unfold maxLen; omega)) (by rw [ins_length _ _ _ (by omega)]; omega) ?_
          · simp [zeros_size, hxl]; omega
          · intro j x hj
            rw [World.cell?_alloc_at (w := w.drew) _ _ w.heap.size _ rfl]
            have hjl := (List.getElem?_eq_some_iff.1 hj).1
            rw [ins_length _ _ _ (by omega)] at hjl
            have e : ins xs i q = xs ++ [q] := by unfold ins; rw [List.take_of_length_le (by omega), List.drop_of_length_le (by omega)]
            rw [e] at hj
            rw [Array.getElem?_append_left (by simp; omega)]
            simpa using hj
        · exact ⟨rfl, rfl, rfl, by rw [World.size_alloc]; exact Nat.le_succ _, fun k hk _ => Below.heap_alloc w.drew _ k hk⟩
        · intro k hk
          simp [Value.ownBlock] at hk
          exact .inr (by omega)
    · by_cases hroom : n + 1 ≤ cap
      · refine (insert_shift g 0 n cap i vb 0 1 1 xs [q] w (by omega) (by omega) hroom hcm' hne hxl rfl hcell (fun j hj => hsome j (by omega)) (fun j _ => hfz _) hvs h1 h1v 59 59 1 cap (by simp [World.shape?, hq]) (by simp [World.shape?, hg]; omega) (by omega) (frozen_of_row w vb 0 #[q] 59 hq) (frozen_of_row w vb 1 #[q] 59 hq)).mono ?_
        rintro e w' ⟨rfl, rfl⟩
        obtain ⟨cur1, hcur1, hs1⟩ := setCells_block g 59 (xs.drop i) (0 + (i + 1)) w.drew cur hg
        obtain ⟨cur2, hcur2, hs2⟩ := setCells_block g 59 [q] (0 + i) _ cur1 hcur1
        refine ⟨_, rfl, ?_, grown_trans (grown_trans (w1 := w.drew) ⟨rfl, rfl, rfl, Nat.le_refl _, fun _ _ _ => rfl⟩ (setCells_grown g _ _ w.drew)) (setCells_grown g _ _ _), fun k hk => .inl hk⟩
        refine owns_of_cells hBg hcur2 (by omega) hroom hcm (by rw [ins_length _ _ _ (by omega)]; omega) ?_
        have hdl : (xs.drop i).length = n - i := by simp; omega
        intro j x hj
        have hjl := (List.getElem?_eq_some_iff.1 hj).1
        rw [ins_length _ _ _ (by omega)] at hjl
        rw [ins_get _ _ _ (by omega)] at hj
        by_cases hji : j = i
        · subst hji
          simp at hj
          subst hj
          have := World.cell?_setCells_in g [q] (0 + j) (w.drew.setCells g (0 + (j + 1)) (xs.drop j)) (fun t ht => by
            simp at ht
            subst ht
            have := World.cell?_setCells_out g (xs.drop j) (0 + (j + 1)) w.drew ⟨g, 0 + j + 0, none⟩ (fun _ _ => by show 0 + j + 0 < 0 + (j + 1) ∨ _; omega)
            rw [this]
            have := hsome j (by omega)
            simpa using this) 0 (by simp)
          simpa using this
        · rw [World.cell?_setCells_out g [q] (0 + i) _ _ (fun _ _ => by show j < 0 + i ∨ 0 + i + 1 ≤ j; omega)]
          by_cases hlt : j < i
          · rw [if_pos hlt] at hj
            rw [World.cell?_setCells_out g _ _ _ _ (fun _ _ => by show j < 0 + (i + 1) ∨ _; omega)]
            have := hcell j x hj
            simpa using this
          · rw [if_neg hlt, if_neg hji] at hj
            have := World.cell?_setCells_in g (xs.drop i) (0 + (i + 1)) w.drew (fun t ht => by
              have := hsome (i + 1 + t) (by omega)
              simpa using this) (j - (i + 1)) (by omega)
            rw [show 0 + (i + 1) + (j - (i + 1)) = j from by omega] at this
            rw [this, ← List.getElem?_eq_getElem, List.getElem?_drop, show i + (j - (i + 1)) = j - 1 from by omega, hj]
      · refine (insert_grow g 0 n cap i vb 0 1 1 xs [q] w (by omega) (by omega) hnc (by omega) (by omega) hxl rfl hcell hvs h1 h1v).mono ?_
        rintro e w' ⟨rfl, rfl⟩
        have hG : n + 1 ≤ grownCap w (n + 1) cap 59 := grownCap_ge w _ _ _
        generalize hROW : (xs.take i).toArray ++ Builtin.zeroCells (Value.pointer none).cells (n + 1 - i) ++ Builtin.zeroCells (Value.pointer none).cells (grownCap w (n + 1) cap 59 - (n + 1)) = ROW
        have hRs : ROW.size = grownCap w (n + 1) cap 59 := by
          rw [← hROW]; simp [zeros_size]; omega
        have hR0 : ∀ j, j < i → ROW[j]? = xs[j]? := by
          intro j hj
          rw [← hROW, Array.append_assoc, Array.getElem?_append_left (by simp; omega)]
          simp [hj]
        generalize hW1 : (w.alloc (.cells ROW 59)).drew = W1
        have hW1g : W1.heap[w.heap.size]? = some (.cells ROW 59 (0, 0)) := by rw [← hW1]; exact heap_alloc_new w _
        have hW1b : w.grownBy W1 (some g) := by rw [← hW1]; exact ⟨rfl, rfl, rfl, by show w.heap.size ≤ (w.alloc _).heap.size; simp, fun k hk _ => Below.heap_alloc w _ k hk⟩
        obtain ⟨cur1, hcur1, hs1⟩ := setCells_block w.heap.size 59 [q] i W1 ROW hW1g
        have hcur1' : (W1.setCells w.heap.size i [q]).drew.heap[w.heap.size]? = some (.cells cur1 59 (0, 0)) := hcur1
        obtain ⟨cur2, hcur2, hs2⟩ := setCells_block w.heap.size 59 (xs.drop i) (i + 1) _ cur1 hcur1'
        have hsome1 : ∀ j, j < n + 1 → (W1.cell? ⟨w.heap.size, j, none⟩).isSome = true := by
          intro j hj
          rw [cell_of_row W1 w.heap.size j ROW 59 (0, 0) hW1g, Array.getElem?_eq_getElem (by omega)]; rfl
        have hg1 := setCells_grown w.heap.size [q] i W1
        have hg2 := setCells_grown w.heap.size (xs.drop i) (i + 1) (W1.setCells w.heap.size i [q]).drew
        refine ⟨_, rfl, ?_, ?_, ?_⟩
        · refine owns_of_cells hB hcur2 (by omega) hG (grownCap_le_maxLen w _ _ _ (by unfold maxLen; omega)) (by rw [ins_length _ _ _ (by omega)]; omega) ?_
          have hdl : (xs.drop i).length = n - i := by simp; omega
          intro j x hj
          have hjl := (List.getElem?_eq_some_iff.1 hj).1
          rw [ins_length _ _ _ (by omega)] at hjl
          rw [ins_get _ _ _ (by omega)] at hj
          by_cases hlt : j < i
          · rw [if_pos hlt] at hj
            rw [World.cell?_setCells_out _ _ _ _ _ (fun _ _ => by show j < i + 1 ∨ _; omega)]
            show (W1.setCells w.heap.size i [q]).cell? _ = _
            rw [World.cell?_setCells_out _ _ _ _ _ (fun _ _ => by show j < i ∨ _; omega), cell_of_row W1 w.heap.size j ROW 59 (0, 0) hW1g, hR0 j hlt, hj]
          · by_cases hji : j = i
            · subst hji
              simp at hj
              subst hj
              rw [World.cell?_setCells_out _ _ _ _ _ (fun _ _ => by show j < j + 1 ∨ _; omega)]
              have := World.cell?_setCells_in w.heap.size [q] j W1 (fun t ht => by simp at ht; subst ht; exact hsome1 _ (by omega)) 0 (by simp)
              simpa using this
            · rw [if_neg hlt, if_neg hji] at hj
              have := World.cell?_setCells_in w.heap.size (xs.drop i) (i + 1) (W1.setCells w.heap.size i [q]).drew (fun t ht => by
                show ((W1.setCells w.heap.size i [q]).cell? _).isSome = true
                exact isSome_setCells _ _ _ _ (fun u hu => by simp at hu; subst hu; exact hsome1 _ (by omega)) _ (hsome1 _ (by omega))) (j - (i + 1)) (by omega)
              rw [show i + 1 + (j - (i + 1)) = j from by omega] at this
              rw [this, ← List.getElem?_eq_getElem, List.getElem?_drop, show i + (j - (i + 1)) = j - 1 from by omega, hj]
        · have hs1' : W1.heap.size ≤ (W1.setCells w.heap.size i [q]).heap.size := hg1.size
          have e2 : ∀ k, k < w.heap.size → ((W1.setCells w.heap.size i [q]).drew.setCells w.heap.size (i + 1) (xs.drop i)).heap[k]? = W1.heap[k]? := by
            intro k hk
            have hkW : k < W1.heap.size := Nat.lt_of_lt_of_le hk hW1b.size
            rw [hg2.block k (Nat.lt_of_lt_of_le hkW hs1') (by simp; omega)]
            exact hg1.block k hkW (by simp; omega)
          exact ⟨hg2.os.trans (hg1.os.trans hW1b.os), hg2.tape.trans (hg1.tape.trans hW1b.tape), hg2.output.trans (hg1.output.trans hW1b.output), Nat.le_trans hW1b.size (Nat.le_trans hs1' hg2.size), fun k hk hne => (e2 k hk).trans (hW1b.block k hk hne)⟩
        · intro k hk
          simp [Value.ownBlock] at hk
          exact .inr (by omega)
end Go.Proofs.Qxb6613043aDoor
