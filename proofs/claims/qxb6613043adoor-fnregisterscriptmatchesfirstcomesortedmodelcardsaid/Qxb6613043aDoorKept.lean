/-
  Seat b6613043aD: the two rows of strings that the law keeps beside the registry; containsStringF.
-/
import Derived.Test.Qxb6613043aDoorRegister2
import Derived.Test.Qxb6613043aDoorPlain3
import Derived.Test.Qxb6613043aDoorBytes
import Derived.OwnWalk
namespace Go.Proofs.Qxb6613043aDoor
open Go.RowKit

/-- the names and the helps of M, in two rows of their own -/
structure Two (w : World) (B g1 g2 cap : Nat) (M : List Ent) : Prop where
  r1 : w.ownsRow B 9 1 (.slice (some ⟨g1, 0, none⟩) M.length cap) M.length (M.map fun e => .string e.1)
  r2 : w.ownsRow B 9 1 (.slice (some ⟨g2, 0, none⟩) M.length cap) M.length (M.map fun e => .string e.2)
  ne : g1 ≠ g2

/-- a row's block -/
theorem row_blk {w : World} {B g n cap : Nat} {xs : List Value} (h : w.ownsRow B 9 1 (.slice (some ⟨g, 0, none⟩) n cap) n xs) : ∃ c, w.heap[g]? = some (.cells c 9 (0, 0)) := by
  rcases h.2 with ⟨h', _⟩ | ⟨g', cap', cur, h', _, hg, _⟩
  · simp at h'
  · simp only [Value.slice.injEq, Option.some.injEq, Addr.mk.injEq, and_true, true_and] at h'
    obtain ⟨rfl, rfl⟩ := h'
    exact ⟨cur, hg⟩
/-- a row whose block is as it was -/
theorem row_kept {w w' : World} {B g n cap : Nat} {xs : List Value} (h : w.ownsRow B 9 1 (.slice (some ⟨g, 0, none⟩) n cap) n xs) (hb : ∀ c, w.heap[g]? = some (.cells c 9 (0, 0)) → w'.heap[g]? = some (.cells c 9 (0, 0))) :
    w'.ownsRow B 9 1 (.slice (some ⟨g, 0, none⟩) n cap) n xs := by
  refine ⟨h.1, ?_⟩
  rcases h.2 with ⟨h', _⟩ | ⟨g', cap', cur, h', h2, hg, h4⟩
  · simp at h'
  · have h'' := h'
    simp only [Value.slice.injEq, Option.some.injEq, Addr.mk.injEq, and_true, true_and] at h''
    obtain ⟨rfl, rfl⟩ := h''
    exact .inr ⟨g, cap, cur, h', h2, hb cur hg, h4⟩

section
variable {w w' : World} {B g1 g2 cap : Nat} {M : List Ent}
theorem Two.name (h : Two w B g1 g2 cap M) (i : Nat) (e : Ent) (hi : M[i]? = some e) : w.cell? ⟨g1, i, none⟩ = some (.string e.1) := by
  have hl := (List.getElem?_eq_some_iff.1 hi).1
  rw [h.r1.cellAt i (by omega), List.getElem?_map, hi]; rfl
theorem Two.help (h : Two w B g1 g2 cap M) (i : Nat) (e : Ent) (hi : M[i]? = some e) : w.cell? ⟨g2, i, none⟩ = some (.string e.2) := by
  have hl := (List.getElem?_eq_some_iff.1 hi).1
  rw [h.r2.cellAt i (by omega), List.getElem?_map, hi]; rfl
theorem Two.kept (h : Two w B g1 g2 cap M) (hb : ∀ k c, (k = g1 ∨ k = g2) → w.heap[k]? = some (.cells c 9 (0, 0)) → w'.heap[k]? = some (.cells c 9 (0, 0))) : Two w' B g1 g2 cap M :=
  ⟨row_kept h.r1 (fun c => hb g1 c (.inl rfl)), row_kept h.r2 (fun c => hb g2 c (.inr rfl)), h.ne⟩
/-- over a registration -/
theorem Two.oth {rb : Nat} {st : Int} {v : Value} {Q : Nat → Nat} {L : List Ent} {B' : Nat} (h : Two w B g1 g2 cap M) (hR : Reg w B' rb st v Q L) (ho : Oth rb w w') : Two w' B g1 g2 cap M :=
  h.kept (fun k c _ hk => ho k c 9 (0, 0) (fun e => by subst e; rw [hR.blk] at hk; simp at hk) (by decide) hk)
/-- the registry, over a change of a row of strings -/
theorem Reg.strings {rb g : Nat} {st : Int} {v : Value} {Q : Nat → Nat} {L : List Ent} (hR : Reg w B rb st v Q L) (hg : w.grownBy w' (some g)) (hk : ∃ c, w.heap[g]? = some (.cells c 9 (0, 0))) : Reg w' B rb st v Q L where
  blk := by
    obtain ⟨c, hc⟩ := hk
    exact (hg.block rb hR.lt (fun e => by cases e; rw [hR.blk] at hc; simp at hc)).trans hR.blk
  row := by
    obtain ⟨c, hc⟩ := hk
    refine ⟨hR.row.1, ?_⟩
    rcases hR.row.2 with k | ⟨g', cap, cur, h1, h2, h3, h4⟩
    · exact .inl k
    · exact .inr ⟨g', cap, cur, h1, h2, (hg.block g' (Array.getElem?_eq_some_iff.1 h3).1 (fun e => by cases e; rw [h3] at hc; simp at hc)).trans h3, h4⟩
  ent := fun i e hi => by
    obtain ⟨c, hc⟩ := hk
    obtain ⟨m, hm⟩ := hR.ent i e hi
    exact ⟨m, (hg.block _ (Array.getElem?_eq_some_iff.1 hm).1 (fun e => by cases e; rw [hm] at hc; simp at hc)).trans hm⟩
  le := hR.le
  cov := Nat.le_trans hR.cov hg.size
/-- two neighbours change places, by four stores -/
theorem Two.sw {j : Nat} {d0 d1 : Ent} (h : Two w B g1 g2 cap M) :
    Two ((((w.setCell ⟨g1, j + 1, none⟩ (.string d0.1)).setCell ⟨g2, j + 1, none⟩ (.string d0.2)).setCell ⟨g1, j, none⟩ (.string d1.1)).setCell ⟨g2, j, none⟩ (.string d1.2)) B g1 g2 cap (sw M j d0 d1) := by
  obtain ⟨a1, k1⟩ := h.r1.stored (j + 1) (.string d0.1)
  have b1 := h.r2.kept k1 (.inr (by simp [Value.ownBlock]; exact fun e => h.ne e.symm))
  obtain ⟨b2, k2⟩ := b1.stored (j + 1) (.string d0.2)
  have a2 := a1.kept k2 (.inr (by simp [Value.ownBlock]; exact h.ne))
  obtain ⟨a3, k3⟩ := a2.stored j (.string d1.1)
  have b3 := b2.kept k3 (.inr (by simp [Value.ownBlock]; exact fun e => h.ne e.symm))
  obtain ⟨b4, k4⟩ := b3.stored j (.string d1.2)
  have a4 := a3.kept k4 (.inr (by simp [Value.ownBlock]; exact h.ne))
  refine ⟨?_, ?_, h.ne⟩
  · rw [sw_length]
    have e : (Qxb6613043aDoor.sw M j d0 d1).map (fun e => Value.string e.1) = ((M.map fun e => Value.string e.1).set (j + 1) (.string d0.1)).set j (.string d1.1) := by simp [Qxb6613043aDoor.sw, List.map_set]
    rw [e]; exact a4
  · rw [sw_length]
    have e : (Qxb6613043aDoor.sw M j d0 d1).map (fun e => Value.string e.2) = ((M.map fun e => Value.string e.2).set (j + 1) (.string d0.2)).set j (.string d1.2) := by simp [Qxb6613043aDoor.sw, List.map_set]
    rw [e]; exact b4
theorem Two.blk1 (h : Two w B g1 g2 cap M) : ∃ c, w.heap[g1]? = some (.cells c 9 (0, 0)) := row_blk h.r1
theorem Two.blk2 (h : Two w B g1 g2 cap M) : ∃ c, w.heap[g2]? = some (.cells c 9 (0, 0)) := row_blk h.r2
end
/-- the registry, over a store into a row of strings -/
theorem Reg.stored {w : World} {B rb g : Nat} {st : Int} {v : Value} {Q : Nat → Nat} {L : List Ent} (hR : Reg w B rb st v Q L) (hk : ∃ c, w.heap[g]? = some (.cells c 9 (0, 0))) (j : Nat) (u : Value) :
    Reg (w.setCell ⟨g, j, none⟩ u) B rb st v Q L :=
  hR.strings (g := g) ⟨rfl, rfl, rfl, by simp, fun k _ hk => Below.heap_setCell w ⟨g, j, none⟩ u k (fun e => hk (by simp [e]))⟩ hk
/-- a row of strings stays one -/
theorem strings_stored {w : World} {g k : Nat} (hk : ∃ c, w.heap[g]? = some (.cells c 9 (0, 0))) (hq : ∃ c, w.heap[k]? = some (.cells c 9 (0, 0))) (j : Nat) (u : Value) : ∃ c, (w.setCell ⟨k, j, none⟩ u).heap[g]? = some (.cells c 9 (0, 0)) := by
  by_cases e : g = k
  · subst e
    obtain ⟨c, hc⟩ := hk
    exact ⟨_, heap_setCell_same w g j c 9 u hc⟩
  · obtain ⟨c, hc⟩ := hk
    exact ⟨c, by rw [Below.heap_setCell w ⟨k, j, none⟩ u g e]; exact hc⟩
theorem Reg.sw {w : World} {B rb g1 g2 cap : Nat} {st : Int} {v : Value} {Q : Nat → Nat} {L M : List Ent} (hR : Reg w B rb st v Q L) (h : Two w B g1 g2 cap M) (j : Nat) (u1 u2 u3 u4 : Value) :
    Reg ((((w.setCell ⟨g1, j + 1, none⟩ u1).setCell ⟨g2, j + 1, none⟩ u2).setCell ⟨g1, j, none⟩ u3).setCell ⟨g2, j, none⟩ u4) B rb st v Q L := by
  have p1 := h.blk1
  have p2 := h.blk2
  have q1 := strings_stored p1 p1 (j + 1) u1
  have q2 := strings_stored p2 p1 (j + 1) u1
  have s1 := strings_stored q1 q2 (j + 1) u2
  have s2 := strings_stored q2 q2 (j + 1) u2
  have t2 := strings_stored s2 s1 j u3
  exact (((hR.stored p1 _ _).stored q2 _ _).stored s1 _ _).stored t2 _ _

/-- it says whether the name is there -/
def Has9 (M : List Ent) (x : ByteArray) (e : Ending) : Prop := ∃ b, e = .returned (.bool b) ∧ (b = true ↔ has M x)

theorem contains_any (B g1 g2 cap : Nat) (M : List Ent) (x : ByteArray) (w : World) (h : Two w B g1 g2 cap M) (hn : M.length ≤ 100000) :
    Calls Tryd.prog 9 #[.slice (some ⟨g1, 0, none⟩) M.length cap, .string x] w fun e w' => Has9 M x e ∧ w' = w := by
  have HT : Hid (Two w B g1 g2 cap M) := h
  clear h
  go_enter Tryd.func9, Tryd.ntmps9
  go_wp2
  go_loop [5] (fun i => ∃ k : Nat, k ≤ M.length ∧ i = .int .i64 k ∧ ∀ (t : Nat) (e : Ent), t < k → M[t]? = some e → e.1 ≠ x) (fun i => M.length - (intOf i).toNat)
  case atStart => exact ⟨0, by omega, rfl, fun t e ht => absurd ht (by omega)⟩
  case round =>
    obtain ⟨k, hk, rfl, hno⟩ := hrel
    have HNO : Hid (∀ (t : Nat) (e : Ent), t < k → M[t]? = some e → e.1 ≠ x) := hno
    clear hno
    by_cases hlt : k < M.length
    · obtain ⟨d, hd⟩ : ∃ d, M[k]? = some d := ⟨_, List.getElem?_eq_getElem hlt⟩
      have c0 := HT.out.name k d hd
      have HD : Hid (M[k]? = some d) := hd
      clear hd
      cases heq : (d.1.toList == x.toList) with
      | false =>
        have HN2 : Hid (∀ (t : Nat) (e : Ent), t < k + 1 → M[t]? = some e → e.1 ≠ x) := by
          intro t e ht he hex
          by_cases e2 : t = k
          · subst e2
            rw [HD.out] at he
            cases he
            rw [hex] at heq; simp at heq
          · exact HNO.out t e (by omega) he hex
        go_wp2
        go_round
        case rel => exact ⟨k + 1, by omega, by go_num, HN2.out⟩
        case measure => simp [intOf]; omega
      | true =>
        have HH : Hid (has M x) := ⟨d, List.mem_of_getElem? HD.out, key_inj (by have := beq_iff_eq.1 heq; rwa [toList_data, toList_data] at this)⟩
        go_wp2
        go_ret
        exact ⟨⟨true, rfl, ⟨fun _ => HH.out, fun _ => rfl⟩⟩, rfl⟩
    · go_wp2
      go_ret
      refine ⟨⟨false, rfl, ⟨(fun h => by cases h), fun ⟨e, he, hex⟩ => ?_⟩⟩, rfl⟩
      obtain ⟨t, ht⟩ := List.getElem?_of_mem he
      exact absurd hex (HNO.out t e (by have := (List.getElem?_eq_some_iff.1 ht).1; omega) ht)

/-- it returned some bool; if true, the second slice is short -/
def IsB5 (n : Nat) (e : Ending) : Prop := ∃ r, e = .returned (.bool r) ∧ (r = true → n ≤ 1048576)

set_option maxHeartbeats 2000000 in
theorem bytes5_any (a a2 : Option Addr) (len cap len2 cap2 : Nat) (nm nm2 : Nat → ByteArray) (w : World) (hA : IsStr w a len nm) (hA2 : IsStr w a2 len2 nm2) :
    Calls Tryd.prog 5 #[.slice a len cap, .slice a2 len2 cap2] w fun e w' => IsB5 len2 e ∧ w' = w := by
  have HA : Hid (IsStr w a len nm) := hA
  have HA2 : Hid (IsStr w a2 len2 nm2) := hA2
  clear hA hA2
  by_cases hl : 1048576 < len
  · go_enter Tryd.func5, Tryd.ntmps5
    go_wp2
    go_ret
    exact ⟨⟨_, rfl, (by intro h; first | omega | cases h)⟩, rfl⟩
  go_enter Tryd.func5, Tryd.ntmps5
  go_wp2_with fail
  go_loop [5, 6] (fun z i => ∃ k : Nat, k ≤ len ∧ i = .int .i64 k ∧ ∃ x, z = .int .i64 x) (fun _ i => len - (intOf i).toNat)
  case atStart => exact ⟨0, by omega, rfl, _, rfl⟩
  case round =>
    obtain ⟨k, hk, rfl, x, rfl⟩ := hrel
    by_cases hlt : k < len
    · obtain ⟨ab, ao, ha, hab, hc⟩ := HA.out (by omega)
      obtain ⟨c0, hs⟩ := hc k hlt
      subst ha
      clear hc
      generalize nm k = s at c0 hs
      go_wp2
      all_goals first
        | (go_ret; exact ⟨⟨_, rfl, (by intro h; first | omega | cases h)⟩, rfl⟩)
        | skip
      all_goals
        go_round
        case rel => exact ⟨k + 1, by omega, by go_num, _, rfl⟩
        case measure => simp [intOf]; omega
    · by_cases hl2 : 1048576 < len2
      · go_wp2
        go_ret
        exact ⟨⟨_, rfl, (by intro h; first | omega | cases h)⟩, rfl⟩
      go_wp2_with fail
      all_goals first
        | (go_ret; exact ⟨⟨_, rfl, (by intro h; first | omega | cases h)⟩, rfl⟩)
        | skip
      go_loop [5, 7] (fun z i => ∃ k : Nat, k ≤ len2 ∧ i = .int .i64 k ∧ ∃ x, z = .int .i64 x) (fun _ i => len2 - (intOf i).toNat)
      case atStart => exact ⟨0, by omega, rfl, _, rfl⟩
      case round =>
        obtain ⟨k2, hk2, rfl, x2, rfl⟩ := hrel
        by_cases hlt2 : k2 < len2
        · obtain ⟨ab, ao, ha, hab, hc⟩ := HA2.out (by omega)
          obtain ⟨c0, hs⟩ := hc k2 hlt2
          subst ha
          clear hc
          generalize nm2 k2 = s at c0 hs
          go_wp2
          all_goals first
            | (go_ret; exact ⟨⟨_, rfl, (by intro h; first | omega | cases h)⟩, rfl⟩)
            | skip
          all_goals
            go_round
            case rel => exact ⟨k2 + 1, by omega, by go_num, _, rfl⟩
            case measure => simp [intOf]; omega
        · go_wp2
          go_ret
          exact ⟨⟨_, rfl, (by intro h; first | omega | cases h)⟩, rfl⟩
/-- one name and one help appended -/
theorem appended {w0 w w5 w6 : World} {B rb g1 g2 cap n : Nat} {v : Value} {Q : Nat → Nat} {L K : List Ent} {x h : ByteArray} (hK : K.length = n) (hR : Reg w B rb 0 v Q L) (hT : Two w B g1 g2 cap K) (hbel : Below B w0 w)
    (o5 : w5.ownsRow B 9 1 (.slice (some ⟨g1, 0, none⟩) (n + 1) cap) (n + 1) ((K.map fun e => Value.string e.1) ++ [.string x])) (k5 : (w.alloc (.cells #[.string x] 9)).grownBy w5 (some g1))
    (o6 : w6.ownsRow B 9 1 (.slice (some ⟨g2, 0, none⟩) (n + 1) cap) (n + 1) ((K.map fun e => Value.string e.2) ++ [.string h])) (k6 : (w5.alloc (.cells #[.string h] 9)).grownBy w6 (some g2)) :
    Reg w6 B rb 0 v Q L ∧ Two w6 B g1 g2 cap (K ++ [(x, h)]) ∧ Below B w0 w6 := by
  subst hK
  have l1 := (hT.r1.lt g1 rfl)
  have l2 := (hT.r2.lt g2 rfl)
  have p1 := hT.blk1
  have b5 : ∃ c, w5.heap[g2]? = some (.cells c 9 (0, 0)) := by
    obtain ⟨c, hc⟩ := hT.blk2
    refine ⟨c, ?_⟩
    rw [k5.block g2 (by simp; omega) (fun e => hT.ne (Option.some.inj e).symm), Below.heap_alloc _ _ _ l2.2]
    exact hc
  have l5 : g2 < w5.heap.size := by obtain ⟨c, hc⟩ := b5; exact (Array.getElem?_eq_some_iff.1 hc).1
  have R1 : Reg (w.alloc (.cells #[.string x] 9)) B rb 0 v Q L := hR.kept (fun k hk => Below.heap_alloc _ _ _ hk) (by simp)
  have R5 : Reg w5 B rb 0 v Q L := R1.strings k5 (by obtain ⟨c, hc⟩ := p1; exact ⟨c, by rw [Below.heap_alloc _ _ _ l1.2]; exact hc⟩)
  have R6 : Reg (w5.alloc (.cells #[.string h] 9)) B rb 0 v Q L := R5.kept (fun k hk => Below.heap_alloc _ _ _ hk) (by simp)
  have hB5 : B ≤ w5.heap.size := R5.cov
  refine ⟨R6.strings k6 (by obtain ⟨c, hc⟩ := b5; exact ⟨c, by rw [Below.heap_alloc _ _ _ l5]; exact hc⟩), ⟨?_, ?_, hT.ne⟩, ?_⟩
  · have := (o5.alloc (.cells #[.string h] 9)).kept k6 (.inr (by simp [Value.ownBlock]; exact hT.ne))
    simpa using this
  · simpa using o6
  · refine (((hbel.alloc hR.cov _).grown k5 (by have := hR.cov; simp; omega) (fun k hk => ?_)).alloc hB5 _).grown k6 (by simp; omega) (fun k hk => ?_)
    · cases hk; exact l1.1
    · cases hk; exact l2.1
/-- a row's room for one string, its operands' cells -/
theorem cells_lit (w : World) (s : ByteArray) : ∀ (j : Nat) (u : Value), [Value.string s][j]? = some u → (w.alloc (.cells #[.string s] 9)).cell? ((⟨w.heap.size, 0, none⟩ : Addr).add j) = some u := by
  intro j u hj
  match j, hj with
  | 0, hj => simp at hj; subst hj; simp [Addr.add]
theorem one_lit (s : ByteArray) : ∀ u ∈ [Value.string s], u.oneCell' = true := by
  intro u hu; simp at hu; subst hu; rfl
theorem lt_of_less : ∀ (x y : List UInt8), Op.bytesLess x y = true → x < y
  | [], [], h => by simp [Op.bytesLess] at h
  | _ :: _, [], h => by simp [Op.bytesLess] at h
  | [], _ :: _, _ => by simp
  | a :: x, b :: y, h => by
    rw [Op.bytesLess] at h
    rw [List.cons_lt_cons_iff]
    by_cases h1 : a < b
    · exact .inl h1
    · simp [h1] at h
      obtain ⟨rfl, h4⟩ := h
      exact .inr ⟨rfl, lt_of_less x y h4⟩
theorem lt_less {a b : ByteArray} (h : Op.bytesLess a.toList b.toList = true) : Lt a b := by rw [toList_data, toList_data] at h; exact lt_of_less _ _ h
theorem Tryd.info9 : (Tryd.prog.info? 9).map (fun i => (i.zero, i.size, i.bytes)) = some (some (.string ⟨#[]⟩), 1, 16) := by kernel_rfl
end Go.Proofs.Qxb6613043aDoor
