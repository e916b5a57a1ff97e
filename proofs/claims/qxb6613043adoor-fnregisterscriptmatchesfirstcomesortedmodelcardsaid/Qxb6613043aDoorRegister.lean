/-
  Seat b6613043aD: register, ZZregisterGauge.
-/
import Derived.Test.Qxb6613043aDoorReg
namespace Go.Proofs.Qxb6613043aDoor
open Go.RowKit Go.MuLone

/-- what a registration leaves -/
def Left (w : World) (B rb : Nat) (L : List Ent) (x h : ByteArray) (e : Ending) (w' : World) : Prop :=
  Below B w w' ∧ ((e = .returned .nilIface ∧ (validB x = true ∧ ¬ has L x) ∧ ∃ i v Q, At L x i ∧ Reg w' B rb 0 v Q (insE L i (x, h))) ∨
    (∃ t u, e = .returned (.iface t u) ∧ ¬(validB x = true ∧ ¬ has L x) ∧ ∃ v Q, Reg w' B rb 0 v Q L))

theorem register_bad (B rb : Nat) (v m : Value) (Q : Nat → Nat) (L : List Ent) (x h : ByteArray) (t0 : TypeId) (u0 : Value) (w : World) (hR : Reg w B rb 0 v Q L) (hx : validB x = false) (hxs : x.size ≤ 9223372036854775807)
    (g0 : w.cell? ⟨0, 0, none⟩ = some (.iface t0 u0)) :
    Calls Tryd.prog 14 #[.pointer (some ⟨rb, 0, none⟩), .string x, .string h, m] w (Left w B rb L x h) := by
  go_enter_defers Tryd.func14, Tryd.ntmps14
  go_wp2_with fail
  refine (valid_any x w hxs).mono ?_
  rintro e w1 ⟨rfl, hb⟩
  rw [hx]
  have g1 := (hb.cell (p := ⟨0, 0, none⟩) (World.block_lt_of_cell? w _ g0)).trans g0
  have R : Left w B rb L x h (.returned (.iface t0 u0)) w1 := ⟨hb.mono hR.cov, .inr ⟨_, _, rfl, (fun hh => by rw [hx] at hh; cases hh.1), v, Q, hR.below hb (Nat.le_refl _)⟩⟩
  clear hR hb g0
  go_wp2
  exact ⟨_, results_tmp (t := 8) rfl _ _ _, R⟩
theorem register_taken (B rb : Nat) (v m : Value) (Q : Nat → Nat) (L : List Ent) (x h : ByteArray) (t1 : TypeId) (u1 : Value) (w : World) (hR : Reg w B rb 0 v Q L) (hA : Asc L) (hn : L.length ≤ 90000) (hx : validB x = true) (hh : has L x) (hxs : x.size ≤ 9223372036854775807)
    (g1 : w.cell? ⟨1, 0, none⟩ = some (.iface t1 u1)) (hB : 2 ≤ B) :
    Calls Tryd.prog 14 #[.pointer (some ⟨rb, 0, none⟩), .string x, .string h, m] w (Left w B rb L x h) := by
  go_enter_defers Tryd.func14, Tryd.ntmps14
  go_wp2_with fail
  refine (valid_any x w hxs).mono ?_
  rintro e w1 ⟨rfl, hb1⟩
  rw [hx]
  have g1 := (hb1.cell (p := ⟨1, 0, none⟩) (World.block_lt_of_cell? w _ g1)).trans g1
  have hR1 := hR.below hb1 (Nat.le_refl _)
  go_wp2_with fail
  refine (lock_free Tryd.muLib ⟨rb, 0, none⟩ w1 hR1.c0 (hR1.fz 0)).mono ?_
  rintro e w2 ⟨rfl, rfl⟩
  have hR2 := hR1.lock 1
  have g2 : (w1.setCell ⟨rb, 0, none⟩ (.int .i32 1)).cell? ⟨1, 0, none⟩ = some (.iface t1 u1) := (World.cell?_setCell_other w1 _ _ _ (fun e => by have h1 := hR.le; have h2 : rb = 1 := congrArg Addr.block e; omega)).trans g1
  have hb2 := (hb1.mono hR.cov).setCell (p := ⟨rb, 0, none⟩) hR.le (.int .i32 1)
  generalize w1.setCell ⟨rb, 0, none⟩ (.int .i32 1) = w2 at hR2 g2 hb2 ⊢
  have c2 := hR2.c2
  clear hR1 hb1 g1 hR
  have HR : Hid (Reg w2 B rb 1 v Q L) := hR2
  rcases hR2.open_row with ⟨rfl, rfl⟩ | ⟨g, cap, rfl, hcap, _, hrow⟩
  · obtain ⟨e, he, _⟩ := hh
    simp at he
  · clear hR2
    go_wp2_with fail
    refine (search_some L Q g cap x w2 hcap (by omega) hA hrow (fun i e hi => HR.out.name i e hi)).mono ?_
    rintro e w3 ⟨i, f, rfl, hat, hf, rfl⟩
    obtain rfl : f = true := hf.2 hh
    have R : Left w B rb L x h (.returned (.iface t1 u1)) (w3.setCell ⟨rb, 0, none⟩ (.int .i32 0)) := ⟨hb2.setCell (p := ⟨rb, 0, none⟩) HR.out.le _, .inr ⟨_, _, rfl, (fun h2 => h2.2 hh), _, _, HR.out.lock 0⟩⟩
    have c0 := HR.out.c0
    have f0 := HR.out.fz 0
    clear hrow hf HR hb2 hA hh
    go_wp2
    refine leaves_cons (f := 17) (args := #[.pointer (some ⟨rb, 0, none⟩)]) (by simp) (by simp [go_sem]) ?_
    refine (unlock_deferred Tryd.muLib ⟨rb, 0, none⟩ .returning w3 c0 f0).mono ?_
    rintro e u' w4 ⟨rfl, rfl, rfl⟩
    exact ⟨_, results_tmp (t := 8) rfl _ _ _, R⟩

/-- the entry laid in, its pointer in the row, the slice stored: the registry with one entry more -/
theorem Reg.inserted {w w5 : World} {B rb i : Nat} {v v' m : Value} {Q : Nat → Nat} {L : List Ent} {x h : ByteArray} (hR : Reg w B rb 1 v Q L) (hi : i ≤ L.length)
    (hown : w5.ownsRow B 59 1 v' (L.length + 1) (ins (ptrs Q L.length) i (ptr w.heap.size)))
    (hg : ((w.alloc (.cells #[.string x, .string h, m] 58)).alloc (.cells #[ptr w.heap.size] 59)).grownBy w5 v.ownBlock) :
    Reg ((w5.setCell ⟨rb, 2, none⟩ v').setCell ⟨rb, 0, none⟩ (.int .i32 0)) B rb 0 v' (fun j => if j < i then Q j else if j = i then w.heap.size else Q (j - 1)) (insE L i (x, h)) := by
  have hsz : w.heap.size + 2 ≤ w5.heap.size := by have := hg.size; simpa using this
  have hold : ∀ k, k < w.heap.size → some k ≠ v.ownBlock → w5.heap[k]? = w.heap[k]? := fun k hk hne => by
    rw [hg.block k (by simp; omega) hne, Below.heap_alloc _ _ _ (by simp; omega), Below.heap_alloc _ _ _ hk]
  have hnb : ∀ k t c, w.heap[k]? = some (.cells c t (0, 0)) → t ≠ 59 → some k ≠ v.ownBlock := by
    intro k t c hk ht he
    rcases hR.row.2 with ⟨rfl, _⟩ | ⟨g, cap, cur, rfl, _, h3, _⟩
    · simp [Value.ownBlock] at he
    · simp [Value.ownBlock] at he
      subst he
      rw [h3] at hk
      simp at hk
      exact ht hk.2.symm
  have hrb5 : w5.heap[rb]? = some (.cells #[.int .i32 1, .int .u32 0, v] 43 (0, 0)) := (hold rb hR.lt (hnb rb 43 _ hR.blk (by decide))).trans hR.blk
  have hnew : w5.heap[w.heap.size]? = some (.cells #[.string x, .string h, m] 58 (0, 0)) := by
    have hne : some w.heap.size ≠ v.ownBlock := by
      intro he
      have := hR.row.lt _ he.symm
      omega
    rw [hg.block _ (by simp; omega) hne, Below.heap_alloc _ _ _ (by simp)]
    exact heap_alloc_new w _
  have hent : ∀ (k : Nat) c, w5.heap[k]? = some (.cells c 58 (0, 0)) → ((w5.setCell ⟨rb, 2, none⟩ v').setCell ⟨rb, 0, none⟩ (.int .i32 0)).heap[k]? = some (.cells c 58 (0, 0)) := by
    intro k c hk
    have hkr : k ≠ rb := fun e => by subst e; rw [hrb5] at hk; simp at hk
    rw [Below.heap_setCell _ ⟨rb, 0, none⟩ _ k hkr, Below.heap_setCell _ ⟨rb, 2, none⟩ _ k hkr]
    exact hk
  refine ⟨?_, ?_, ?_, hR.le, ?_⟩
  · have h1 := heap_setCell_same w5 rb 2 _ 43 v' hrb5
    have h2 := heap_setCell_same _ rb 0 _ 43 (.int .i32 0) h1
    simpa using h2
  · rw [insE_length L i _ hi]
    have e : ins (ptrs Q L.length) i (ptr w.heap.size) = ptrs (fun j => if j < i then Q j else if j = i then w.heap.size else Q (j - 1)) (L.length + 1) := by
      apply List.ext_getElem?
      intro j
      rw [ins_get _ _ _ (by rw [ptrs_length]; exact hi), ptrs_get, ptrs_get, ptrs_get]
      by_cases h1 : j < i
      · simp [h1, show j < L.length by omega, show j < L.length + 1 by omega]
      · by_cases h2 : j = i
        · subst h2; simp [show j < L.length + 1 by omega]
        · simp only [if_neg h1, if_neg h2]
          by_cases h3 : j - 1 < L.length
          · rw [if_pos h3, if_pos (by omega)]
          · rw [if_neg h3, if_neg (by omega)]
    rw [← e]
    refine ⟨hown.1, ?_⟩
    rcases hown.2 with k | ⟨g, cap, cur, h1, h2, h3, h4⟩
    · exact .inl k
    · refine .inr ⟨g, cap, cur, h1, h2, ?_, h4⟩
      have hgr : g ≠ rb := fun e => by subst e; rw [hrb5] at h3; simp at h3
      rw [Below.heap_setCell _ ⟨rb, 0, none⟩ _ g hgr, Below.heap_setCell _ ⟨rb, 2, none⟩ _ g hgr]
      exact h3
  · intro j e he
    rw [insE_get L i _ hi] at he
    by_cases h1 : j < i
    · simp only [if_pos h1] at he ⊢
      obtain ⟨mm, hm⟩ := hR.ent j e he
      exact ⟨mm, hent _ _ ((hold _ (Array.getElem?_eq_some_iff.1 hm).1 (hnb _ 58 _ hm (by decide))).trans hm)⟩
    · by_cases h2 : j = i
      · simp only [if_neg h1, if_pos h2] at he ⊢
        cases he
        exact ⟨m, hent _ _ hnew⟩
      · simp only [if_neg h1, if_neg h2] at he ⊢
        obtain ⟨mm, hm⟩ := hR.ent (j - 1) e he
        exact ⟨mm, hent _ _ ((hold _ (Array.getElem?_eq_some_iff.1 hm).1 (hnb _ 58 _ hm (by decide))).trans hm)⟩
  · have := hR.cov
    simp; omega
theorem register_new (B rb : Nat) (v m : Value) (Q : Nat → Nat) (L : List Ent) (x h : ByteArray) (w : World) (hR : Reg w B rb 0 v Q L) (hA : Asc L) (hn : L.length ≤ 90000) (hx : validB x = true) (hh : ¬ has L x) (hxs : x.size ≤ 9223372036854775807) (tm : TypeId) (am : Value) (hm : m = .iface tm am) :
    Calls Tryd.prog 14 #[.pointer (some ⟨rb, 0, none⟩), .string x, .string h, m] w (Left w B rb L x h) := by
  subst hm
  go_enter_defers Tryd.func14, Tryd.ntmps14
  go_wp2_with fail
  refine (valid_any x w hxs).mono ?_
  rintro e w1 ⟨rfl, hb1⟩
  rw [hx]
  have hR1 := hR.below hb1 (Nat.le_refl _)
  go_wp2_with fail
  refine (lock_free Tryd.muLib ⟨rb, 0, none⟩ w1 hR1.c0 (hR1.fz 0)).mono ?_
  rintro e w2 ⟨rfl, rfl⟩
  have hR2 := hR1.lock 1
  have hb2 := (hb1.mono hR.cov).setCell (p := ⟨rb, 0, none⟩) hR.le (.int .i32 1)
  generalize w1.setCell ⟨rb, 0, none⟩ (.int .i32 1) = w2 at hR2 hb2 ⊢
  have c2 := hR2.c2
  clear hR1 hb1 hR
  have HR : Hid (Reg w2 B rb 1 v Q L) := hR2
  -- the search, whatever the row
  have hsearch : Calls Tryd.prog 18 #[v, .string x, .func (.func 19) #[] #[]] w2 (Found L x w2) := by
    rcases hR2.open_row with ⟨rfl, rfl⟩ | ⟨g, cap, rfl, hcap, _, hrow⟩
    · refine (search_none x w2).mono ?_
      rintro e w3 ⟨rfl, rfl⟩
      exact ⟨0, false, rfl, ⟨Nat.le_refl _, fun t e ht => absurd ht (by omega), fun t e _ he => by simp at he⟩, ⟨(fun h => by cases h), (fun h => absurd h hh)⟩, rfl⟩
    · exact search_some L Q g cap x w2 hcap (by omega) hA hrow (fun i e hi => hR2.name i e hi)
  obtain ⟨va, vn, vc, hv⟩ : ∃ va vn vc, v = .slice va vn vc := by
    rcases hR2.open_row with ⟨hv, _⟩ | ⟨g, cap, hv, _⟩
    · exact ⟨_, _, _, hv⟩
    · exact ⟨_, _, _, hv⟩
  subst hv
  clear hR2
  go_wp2_with fail
  refine hsearch.mono ?_
  rintro e w3 ⟨i, f, rfl, hat, hf, rfl⟩
  obtain rfl : f = false := by cases f; rfl; exact absurd (hf.1 rfl) hh
  have HAT : Hid (At L x i) := hat
  clear hsearch hf hat
  go_wp2_with fail
  have hlt2 : w3.heap.size + 1 < ((w3.alloc (.cells #[.string x, .string h, .iface tm am] 58)).alloc (.cells #[ptr w3.heap.size] 59)).heap.size := by simp
  refine (insert_any B (.slice va vn vc) L.length i (w3.heap.size + 1) (ptrs Q L.length) (ptr w3.heap.size) ((w3.alloc (.cells #[.string x, .string h, .iface tm am] 58)).alloc (.cells #[ptr w3.heap.size] 59)) ((HR.out.row.alloc _).alloc _) HAT.out.le (by omega) (by have := HR.out.cov; simp; omega)
    (by rw [show w3.heap.size + 1 = (w3.alloc (.cells #[.string x, .string h, .iface tm am] 58)).heap.size from by simp]; exact heap_alloc_new _ _) (by intro he; have := HR.out.row.lt _ he; omega) rfl (ptrs_one Q _)).mono ?_
  rintro e w5 ⟨v', rfl, hown, hg, _⟩
  have RI := HR.out.inserted (x := x) (h := h) (m := .iface tm am) HAT.out.le hown hg
  obtain ⟨g', cap', hv'⟩ : ∃ g' cap', v' = .slice (some ⟨g', 0, none⟩) (L.length + 1) cap' := by
    rcases hown.2 with ⟨_, k⟩ | ⟨g', cap', cur, h1, _⟩
    · omega
    · exact ⟨g', cap', h1⟩
  subst hv'
  have hne : some rb ≠ (Value.slice va vn vc).ownBlock := by
    intro he
    rcases HR.out.row.2 with ⟨k, _⟩ | ⟨g, cap, cur, k, _, h3, _⟩
    · rw [k] at he; simp [Value.ownBlock] at he
    · rw [k] at he; simp [Value.ownBlock] at he
      subst he
      have := HR.out.blk; rw [h3] at this; simp at this
  have hlt := HR.out.lt
  have hblk : w5.heap[rb]? = some (.cells #[.int .i32 1, .int .u32 0, .slice va vn vc] 43 (0, 0)) := by
    rw [hg.block rb (by simp; omega) hne, Below.heap_alloc _ _ _ (by simp; omega), Below.heap_alloc _ _ _ hlt]
    exact HR.out.blk
  have d2 : w5.cell? ⟨rb, 2, none⟩ = some (.slice va vn vc) := by rw [cell_of_row w5 rb 2 _ 43 (0, 0) hblk]; rfl
  have d0 : w5.cell? ⟨rb, 0, none⟩ = some (.int .i32 1) := by rw [cell_of_row w5 rb 0 _ 43 (0, 0) hblk]; rfl
  have z2 : w5.frozen? ⟨rb, 2, none⟩ = false := frozen_of_row w5 rb 2 _ 43 hblk
  have z0 : w5.frozen? ⟨rb, 0, none⟩ = false := frozen_of_row w5 rb 0 _ 43 hblk
  have hrow : ∀ k, (Value.slice va vn vc).ownBlock = some k → B ≤ k := fun k hk => (HR.out.row.lt k hk).1
  have hb5 : Below B w w5 := ((hb2.alloc HR.out.cov _).alloc (by have := HR.out.cov; simp; omega) _).grown hg (by have := HR.out.cov; simp; omega) hrow
  have R : Left w B rb L x h (.returned .nilIface) ((w5.setCell ⟨rb, 2, none⟩ (.slice (some ⟨g', 0, none⟩) (L.length + 1) cap')).setCell ⟨rb, 0, none⟩ (.int .i32 0)) :=
    ⟨(hb5.setCell (p := ⟨rb, 2, none⟩) HR.out.le _).setCell (p := ⟨rb, 0, none⟩) HR.out.le _, .inl ⟨rfl, ⟨hx, hh⟩, i, _, _, HAT.out, RI⟩⟩
  clear hown hg RI hblk hb5 hrow hb2 hne hlt hlt2 HR HAT c2 hA hh
  go_wp2
  refine leaves_cons (f := 17) (args := #[.pointer (some ⟨rb, 0, none⟩)]) (by simp) (by simp [go_sem]) ?_
  refine (unlock_deferred Tryd.muLib ⟨rb, 0, none⟩ .returning _ ?_ ?_).mono ?_
  · exact (World.cell?_setCell_other w5 ⟨rb, 2, none⟩ ⟨rb, 0, none⟩ _ (by simp)).trans d0
  · simp [z0]
  rintro e u' w6 ⟨rfl, rfl, rfl⟩
  exact ⟨_, results_tmp (t := 8) rfl _ _ _, R⟩

/-- a registration, whatever the name -/
theorem register_any (B rb : Nat) (v : Value) (Q : Nat → Nat) (L : List Ent) (x h : ByteArray) (w : World) (hR : Reg w B rb 0 v Q L) (hA : Asc L) (hn : L.length ≤ 90000) (hxs : x.size ≤ 9223372036854775807) (tm : TypeId) (am : Value)
    (t0 t1 : TypeId) (u0 u1 : Value) (g0 : w.cell? ⟨0, 0, none⟩ = some (.iface t0 u0)) (g1 : w.cell? ⟨1, 0, none⟩ = some (.iface t1 u1)) (hB : 2 ≤ B) :
    Calls Tryd.prog 14 #[.pointer (some ⟨rb, 0, none⟩), .string x, .string h, .iface tm am] w (Left w B rb L x h) := by
  cases hx : validB x with
  | false => exact register_bad B rb v _ Q L x h t0 u0 w hR hx hxs g0
  | true =>
    by_cases hh : has L x
    · exact register_taken B rb v _ Q L x h t1 u1 w hR hA hn hx hh hxs g1 hB
    · exact register_new B rb v _ Q L x h w hR hA hn hx hh hxs tm am rfl
theorem Left.of_below {w w1 w' : World} {B rb : Nat} {L : List Ent} {x h : ByteArray} {e : Ending} (hl : Left w1 B rb L x h e w') (hb : Below B w w1) : Left w B rb L x h e w' := ⟨hb.trans hl.1, hl.2⟩
theorem gauge_any (B rb : Nat) (v : Value) (Q : Nat → Nat) (L : List Ent) (x h : ByteArray) (w : World) (hR : Reg w B rb 0 v Q L) (hA : Asc L) (hn : L.length ≤ 90000) (hxs : x.size ≤ 9223372036854775807)
    (t0 t1 : TypeId) (u0 u1 : Value) (g0 : w.cell? ⟨0, 0, none⟩ = some (.iface t0 u0)) (g1 : w.cell? ⟨1, 0, none⟩ = some (.iface t1 u1)) (hB : 2 ≤ B) :
    Calls Tryd.prog 7 #[.pointer (some ⟨rb, 0, none⟩), .string x, .string h] w (Left w B rb L x h) := by
  go_enter Tryd.func7, Tryd.ntmps7
  go_wp2_with fail
  have hb := (Below.refl w.heap.size w).alloc (Nat.le_refl _) (.cells #[.int .u64 0] 54)
  have hR1 := hR.below hb (Nat.le_refl _)
  have g0 := (hb.cell (p := ⟨0, 0, none⟩) (World.block_lt_of_cell? w _ g0)).trans g0
  have g1 := (hb.cell (p := ⟨1, 0, none⟩) (World.block_lt_of_cell? w _ g1)).trans g1
  have hbB := hb.mono hR.cov
  generalize w.alloc (.cells #[.int .u64 0] 54) = w1 at hR1 g0 g1 hbB ⊢
  refine (register_any B rb v Q L x h w1 hR1 hA hn hxs _ _ t0 t1 u0 u1 g0 g1 hB).mono ?_
  rintro e w2 hl
  have hl2 := hl.of_below hbB
  clear hl hR1 hR hb hbB hA g0 g1
  obtain ⟨hbel, ⟨rfl, k1, k2⟩ | ⟨t, u, rfl, k1, k2⟩⟩ := hl2
  · go_wp2
    go_ret
    exact ⟨hbel, .inl ⟨rfl, k1, k2⟩⟩
  · go_wp2
    go_ret
    exact ⟨hbel, .inr ⟨t, u, rfl, k1, k2⟩⟩
end Go.Proofs.Qxb6613043aDoor
