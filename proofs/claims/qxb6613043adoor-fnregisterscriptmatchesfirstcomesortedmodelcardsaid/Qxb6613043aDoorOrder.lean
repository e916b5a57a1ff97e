/-
  Seat b6613043aD: the walk of FnRegisterOrderFreeAscendingDistinct.
-/
import Derived.Test.Qxb6613043aDoorBytes
namespace Go.Proofs.Qxb6613043aDoor
open Go.RowKit

abbrev VB (y : ByteArray) : Prop := validB y = true
/-- the first k names -/
def Fst (nm : Nat → ByteArray) (k : Nat) (y : ByteArray) : Prop := ∃ j, j < k ∧ nm j = y
theorem fst_succ (nm : Nat → ByteArray) (k : Nat) (y : ByteArray) : Fst nm (k + 1) y ↔ (Fst nm k y ∨ y = nm k) := by
  constructor
  · rintro ⟨j, hj, rfl⟩
    by_cases e : j = k
    · subst e; exact .inr rfl
    · exact .inl ⟨j, by omega, rfl⟩
  · rintro (⟨j, hj, rfl⟩ | rfl)
    · exact ⟨j, by omega, rfl⟩
    · exact ⟨k, by omega, rfl⟩
/-- the names from k on -/
def Lst (nm : Nat → ByteArray) (len k : Nat) (y : ByteArray) : Prop := ∃ j, k ≤ j ∧ j < len ∧ nm j = y
theorem lst_pred (nm : Nat → ByteArray) (len k : Nat) (y : ByteArray) (hk : k < len) : Lst nm len k y ↔ (Lst nm len (k + 1) y ∨ y = nm k) := by
  constructor
  · rintro ⟨j, h1, h2, rfl⟩
    by_cases e : j = k
    · subst e; exact .inr rfl
    · exact .inl ⟨j, by omega, h2, rfl⟩
  · rintro (⟨j, h1, h2, rfl⟩ | rfl)
    · exact ⟨j, by omega, h2, rfl⟩
    · exact ⟨k, Nat.le_refl _, hk, rfl⟩
/-- the slot 'seen' -/
def Seen (nm : Nat → ByteArray) (k j : Nat) (v : Value) : Prop := ∃ b, v = .bool b ∧ (b = true ↔ Fst nm j (nm k))
/-- a ghost: an ascending list of the valid names among the first k, as long as the count -/
def Cnt (nm : Nat → ByteArray) (k n : Nat) : Prop := ∃ L : List Ent, L.length = n ∧ n ≤ k ∧ Asc L ∧ Mem VB (Fst nm k) L
theorem Cnt.pass {nm : Nat → ByteArray} {k n : Nat} (h : Cnt nm k n) (hx : ¬ (validB (nm k) = true ∧ ¬ Fst nm k (nm k))) : Cnt nm (k + 1) n := by
  obtain ⟨L, h1, h2, h3, h4⟩ := h
  exact ⟨L, h1, by omega, h3, h4.pass (x := nm k) (fun ⟨a, b⟩ => hx ⟨a, fun c => b ((h4 _).2 ⟨a, c⟩)⟩) (fst_succ nm k)⟩
theorem Cnt.take {nm : Nat → ByteArray} {k n : Nat} (h : Cnt nm k n) (hx : validB (nm k) = true ∧ ¬ Fst nm k (nm k)) : Cnt nm (k + 1) (n + 1) := by
  obtain ⟨L, h1, h2, h3, h4⟩ := h
  obtain ⟨i, hi⟩ := exists_at (nm k) h3
  have hn : ¬ has L (nm k) := fun hh => hx.2 ((h4 _).1 hh).2
  exact ⟨insE L i (nm k, ByteArray.empty), by rw [insE_length L i _ hi.le, h1], by omega, insE_asc h3 hi hn, h4.take hx.1 (fst_succ nm k)⟩

theorem less_lt : ∀ (x y : List UInt8), x < y → Op.bytesLess x y = true
  | [], [], h => by simp at h
  | _ :: _, [], h => by simp at h
  | [], _ :: _, _ => rfl
  | a :: x, b :: y, h => by
    rw [Op.bytesLess]
    rcases List.cons_lt_cons_iff.1 h with h1 | ⟨rfl, h1⟩
    · simp [h1]
    · simp [less_lt x y h1]
theorem less_of {a b : ByteArray} (h : Lt a b) : Op.bytesLess a.toList b.toList = true := by rw [toList_data, toList_data]; exact less_lt _ _ h

set_option maxRecDepth 100000 in
set_option maxHeartbeats 4000000 in
theorem order_walk (a : Option Addr) (len cap : Nat) (nm : Nat → ByteArray) (w : World) (hA : IsStr w a len nm)
    (t0 t1 : TypeId) (u0 u1 : Value) (g0 : w.cell? ⟨0, 0, none⟩ = some (.iface t0 u0)) (g1 : w.cell? ⟨1, 0, none⟩ = some (.iface t1 u1)) :
    Calls Tryd.prog 4 #[.slice a len cap] w fun e w' => e = .returned (.bool true) ∧ Below w.heap.size w w' := by
  go_enter Tryd.func4, Tryd.ntmps4
  go_wp2_with fail
  refine (bytes4_any a len cap nm w hA).mono ?_
  rintro e w ⟨⟨r, rfl⟩, rfl⟩
  have HA : Hid (IsStr w a len nm) := hA
  have HG0 : Hid (w.cell? ⟨0, 0, none⟩ = some (.iface t0 u0)) := g0
  have HG1 : Hid (w.cell? ⟨1, 0, none⟩ = some (.iface t1 u1)) := g1
  clear hA g0 g1
  cases r
  · go_wp2
    go_ret
    exact ⟨rfl, Below.refl _ _⟩
  by_cases hl : 1024 < len
  · go_wp2
    go_ret
    exact ⟨rfl, Below.refl _ _⟩
  go_wp2_with fail
  go_loop [3, 4] (fun z i => ∃ k : Nat, k ≤ len ∧ i = .int .i64 k ∧ ∃ x, z = .int .i64 x) (fun _ i => len - (intOf i).toNat)
  case atStart => exact ⟨0, by omega, rfl, _, rfl⟩
  case round =>
    obtain ⟨k, hk, rfl, x, rfl⟩ := hrel
    by_cases hlt : k < len
    · obtain ⟨ab, ao, ha, hab, hc⟩ := HA.out (by omega)
      obtain ⟨c0, hs⟩ := hc k hlt
      subst ha
      clear hc
      generalize nm k = s at c0 hs
      go_wp2
      all_goals first
        | (go_ret; exact ⟨rfl, Below.refl _ _⟩)
        | skip
      all_goals
        go_round
        case rel => exact ⟨k + 1, by omega, by go_num, _, rfl⟩
        case measure => simp [intOf]; omega
    · go_wp2_with fail
      -- the count of distinct valid names
      go_loopw [5, 6] (fun z i wr => ∃ k n2 : Nat, k ≤ len ∧ i = .int .i64 k ∧ z = .int .i64 n2 ∧ Cnt nm k n2 ∧ ∃ q, wr = w.drewN q) (fun _ i _ => len - (intOf i).toNat)
      case atStart => exact ⟨0, 0, by omega, rfl, rfl, ⟨[], rfl, Nat.le_refl _, asc_nil, fun y => ⟨fun ⟨e, he, _⟩ => by simp at he, fun ⟨_, j, hj, _⟩ => absurd hj (by omega)⟩⟩, 0, rfl⟩
      case round =>
        obtain ⟨k2, n2, hk2, rfl, rfl, hcnt, q, rfl⟩ := hrel
        have hn2 : n2 ≤ k2 := by obtain ⟨_, _, h, _⟩ := hcnt; exact h
        have HC : Hid (Cnt nm k2 n2) := hcnt
        clear hcnt
        by_cases hlt2 : k2 < len
        · obtain ⟨ab, ao, ha, hab, hc⟩ := HA.out (by omega)
          subst ha
          obtain ⟨c0, hs⟩ := hc k2 hlt2
          have HCELL : Hid (∀ i, i < len → w.cell? ⟨ab, ao + i, none⟩ = some (.string (nm i)) ∧ (nm i).size ≤ 9223372036854775807) := hc
          clear hc
          go_wp2_with fail
          refine (nameOK_any (nm k2) _ hs).mono ?_
          rintro e w2 ⟨rfl, rfl⟩
          cases hv : validB (nm k2) with
          | false =>
            have HC2 : Hid (Cnt nm (k2 + 1) n2) := HC.out.pass (fun h => by rw [hv] at h; cases h.1)
            clear hv
            go_wp2
            go_roundw
            case rel => exact ⟨k2 + 1, n2, by omega, by go_num, rfl, HC2.out, _, rfl⟩
            case measure => simp [intOf]; omega
          | true =>
            have HV : Hid (validB (nm k2) = true) := hv
            clear hv
            go_wp2_with fail
            go_loopw [7, 8] (fun sv j wr => ∃ j2 : Nat, j2 ≤ k2 ∧ j = .int .i64 j2 ∧ Seen nm k2 j2 sv ∧ ∃ q, wr = w.drewN q) (fun _ j _ => k2 - (intOf j).toNat)
            case atStart => exact ⟨0, by omega, rfl, ⟨false, rfl, ⟨(fun h => by cases h), (fun ⟨j, hj, _⟩ => absurd hj (by omega))⟩⟩, _, rfl⟩
            case round =>
              obtain ⟨j2, hj2, rfl, ⟨sb, rfl, hsb⟩, q2, rfl⟩ := hrel
              have HSB : Hid (sb = true ↔ Fst nm j2 (nm k2)) := hsb
              clear hsb
              by_cases hlt3 : j2 < k2
              · have c1 := (HCELL.out j2 (by omega)).1
                cases heq : ((nm j2).toList == (nm k2).toList) with
                | false =>
                  have HS : Hid (sb = true ↔ Fst nm (j2 + 1) (nm k2)) := by
                    refine HSB.out.trans ⟨fun ⟨t, h1, h2⟩ => ⟨t, by omega, h2⟩, fun ⟨t, h1, h2⟩ => ?_⟩
                    by_cases e : t = j2
                    · subst e; rw [h2] at heq; simp at heq
                    · exact ⟨t, by omega, h2⟩
                  go_wp2
                  go_quiet (fail)
                  go_wp2
                  go_roundw
                  case rel => exact ⟨j2 + 1, by omega, by go_num, ⟨sb, rfl, HS.out⟩, _, rfl⟩
                  case measure => simp [intOf]; omega
                | true =>
                  have HS : Hid (Fst nm (j2 + 1) (nm k2)) := by
                    have e : nm j2 = nm k2 := key_inj (by have := beq_iff_eq.1 heq; rwa [toList_data, toList_data] at this)
                    exact ⟨j2, by omega, e⟩
                  go_wp2
                  go_quiet (fail)
                  go_wp2
                  go_roundw
                  case rel => exact ⟨j2 + 1, by omega, by go_num, ⟨true, rfl, ⟨fun _ => HS.out, fun _ => rfl⟩⟩, _, rfl⟩
                  case measure => simp [intOf]; omega
              · have e : j2 = k2 := by omega
                have HSB2 : Hid (sb = true ↔ Fst nm k2 (nm k2)) := by have h := HSB.out; rw [e] at h; exact h
                clear e
                cases sb with
                | false =>
                  have HC2 : Hid (Cnt nm (k2 + 1) (n2 + 1)) := HC.out.take ⟨HV.out, fun h => by have := HSB2.out.2 h; cases this⟩
                  go_wp2
                  go_roundw
                  case rel => exact ⟨k2 + 1, n2 + 1, by omega, by go_num, by go_num, HC2.out, _, rfl⟩
                  case measure => simp [intOf]; omega
                | true =>
                  have HC2 : Hid (Cnt nm (k2 + 1) n2) := HC.out.pass (fun h => h.2 (HSB2.out.1 rfl))
                  go_wp2
                  go_roundw
                  case rel => exact ⟨k2 + 1, n2, by omega, by go_num, rfl, HC2.out, _, rfl⟩
                  case measure => simp [intOf]; omega
        · obtain ⟨W0, hW0, hbW⟩ : ∃ W0, W0 = w.drewN q ∧ Below w.heap.size w W0 := ⟨_, rfl, below_drewN (Below.refl _ _) q⟩
          have e2 : k2 = len := by omega
          have HCL : Hid (Cnt nm len n2) := by rw [← e2]; exact HC.out
          rw [← hW0]
          clear HC e2 hW0
          have hlen2 : 2 ≤ W0.heap.size := by
            have := World.block_lt_of_cell? w _ HG1.out
            have h2 := hbW.size
            have h3 : 1 < w.heap.size := this
            omega
          go_wp2_with fail
          refine (newReg_any W0).mono ?_
          rintro e W1 ⟨rfl, hR1, hb1⟩
          have hbW1 := hbW.trans (hb1.mono hbW.size)
          generalize hrb1 : W0.heap.size = rb1 at hR1 hlen2 ⊢
          have HRB1 : Hid (W0.heap.size = rb1) := hrb1
          have HR1 : Hid (Reg W1 rb1 rb1 0 (.slice none 0 0) (fun _ => 0) []) := hR1
          have hwr1 : w.heap.size ≤ rb1 := by have := hbW.size; omega
          clear hR1 hb1 hrb1 hbW
          go_wp2_with fail
          go_loopw [10, 11] (fun z i wr => ∃ (k v : Nat) (v1 : Value) (Q1 : Nat → Nat) (L1 : List Ent), k ≤ len ∧ i = .int .i64 k ∧ z = .int .i64 v ∧ L1.length = v ∧ v ≤ k ∧ Reg wr rb1 rb1 0 v1 Q1 L1 ∧ Asc L1 ∧ Mem VB (Fst nm k) L1 ∧ Below w.heap.size w wr) (fun _ i _ => len - (intOf i).toNat)
          case atStart => exact ⟨0, 0, _, _, [], by omega, rfl, rfl, rfl, Nat.le_refl _, HR1.out, asc_nil, (fun y => ⟨fun ⟨e, he, _⟩ => by simp at he, fun ⟨_, j, hj, _⟩ => absurd hj (by omega)⟩), hbW1⟩
          case round =>
            obtain ⟨k4, n4, v1, Q1, L1, hk4, rfl, rfl, hL1, hn4, hR, hAsc, hMem, hbel⟩ := hrel
            have HL1 : Hid (L1.length = n4) := hL1
            have HREG : Hid (Reg wr rb1 rb1 0 v1 Q1 L1) := hR
            have HMEM : Hid (Mem VB (Fst nm k4) L1) := hMem
            have HASC : Hid (Asc L1) := hAsc
            clear hL1 hR hMem hAsc HR1 hbW1
            by_cases hlt4 : k4 < len
            · obtain ⟨ab, ao, ha, hab, hc⟩ := HA.out (by omega)
              subst ha
              obtain ⟨c0w, hs⟩ := hc k4 hlt4
              have c0 := (hbel.cell (p := ⟨ab, ao + k4, none⟩) hab).trans c0w
              have G0 := (hbel.cell (p := ⟨0, 0, none⟩) (World.block_lt_of_cell? w _ HG0.out)).trans HG0.out
              have G1 := (hbel.cell (p := ⟨1, 0, none⟩) (World.block_lt_of_cell? w _ HG1.out)).trans HG1.out
              clear c0w hc
              go_wp2_with fail
              refine (gauge_any rb1 rb1 v1 Q1 L1 (nm k4) _ wr HREG.out HASC.out (by have := HL1.out; omega) hs t0 t1 u0 u1 G0 G1 hlen2).mono ?_
              rintro e W2 ⟨hb2, hcase⟩
              have hbel2 := hbel.trans (hb2.mono hwr1)
              clear G0 G1 c0 hb2 hbel
              rcases hcase with ⟨rfl, hok, i4, v2, Q2, hat, hR2⟩ | ⟨t, u, rfl, hno, v2, Q2, hR2⟩
              · have HX : Hid (Reg W2 rb1 rb1 0 v2 Q2 (insE L1 i4 (nm k4, ⟨#[]⟩)) ∧ Asc (insE L1 i4 (nm k4, ⟨#[]⟩)) ∧ Mem VB (Fst nm (k4 + 1)) (insE L1 i4 (nm k4, ⟨#[]⟩)) ∧ (insE L1 i4 (nm k4, ⟨#[]⟩)).length = n4 + 1) :=
                  ⟨hR2, insE_asc HASC.out hat hok.2, HMEM.out.take hok.1 (fst_succ nm k4), by rw [insE_length _ _ _ hat.le, HL1.out]⟩
                clear hR2 hat hok
                go_wp2
                go_roundw
                case rel => exact ⟨k4 + 1, n4 + 1, _, _, _, by omega, by go_num, by go_num, HX.out.2.2.2, by omega, HX.out.1, HX.out.2.1, HX.out.2.2.1, hbel2⟩
                case measure => simp [intOf]; omega
              · have HX : Hid (Reg W2 rb1 rb1 0 v2 Q2 L1 ∧ Mem VB (Fst nm (k4 + 1)) L1) := ⟨hR2, HMEM.out.pass hno (fst_succ nm k4)⟩
                clear hR2 hno
                go_wp2
                go_roundw
                case rel => exact ⟨k4 + 1, n4, _, _, _, by omega, by go_num, rfl, HL1.out, by omega, HX.out.1, HASC.out, HX.out.2, hbel2⟩
                case measure => simp [intOf]; omega
            · have e4 : k4 = len := by omega
              have HM1 : Hid (Mem VB (Fst nm len) L1) := by have h := HMEM.out; rw [e4] at h; exact h
              clear e4 HMEM
              go_wp2_with fail
              refine (newReg_any wr).mono ?_
              rintro e W4 ⟨rfl, hR4, hb4⟩
              have hbel4 := hbel.trans (hb4.mono hbel.size)
              have hws : w.heap.size ≤ wr.heap.size := hbel.size
              generalize hrb2 : wr.heap.size = rb2 at hR4 hb4 hws ⊢
              have HRB2 : Hid (wr.heap.size = rb2) := hrb2
              have HR4 : Hid (Reg W4 rb2 rb2 0 (.slice none 0 0) (fun _ => 0) []) := hR4
              have hlen3 : 2 ≤ rb2 := by
                have h1 := HREG.out.lt
                have h2 := HRB2.out
                omega
              clear hR4 hrb2
              obtain ⟨X1, hX1⟩ : ∃ X1, X1 = wr := ⟨_, rfl⟩
              have HRB3 : Hid (X1.heap.size = rb2) := by rw [hX1]; exact HRB2.out
              have HREG1 : Hid (Reg X1 rb1 rb1 0 v1 Q1 L1) := by rw [hX1]; exact HREG.out
              have hb5 : Below rb2 X1 W4 := by rw [hX1]; exact hb4
              clear hX1 HRB2 HREG hb4 hbel
              go_wp2_with fail
              go_loopw [13, 14] (fun z i wr => ∃ (k v : Nat) (v2 : Value) (Q2 : Nat → Nat) (L2 : List Ent), k ≤ len ∧ i = .int .i64 ((k : Int) - 1) ∧ z = .int .i64 v ∧ L2.length = v ∧ v + k ≤ len ∧ Reg wr rb2 rb2 0 v2 Q2 L2 ∧ Asc L2 ∧ Mem VB (Lst nm len k) L2 ∧ Below w.heap.size w wr ∧ Below rb2 X1 wr) (fun _ i _ => (intOf i + 1).toNat)
              case atStart => exact ⟨len, 0, _, _, [], Nat.le_refl _, rfl, rfl, rfl, by omega, HR4.out, asc_nil, (fun y => ⟨fun ⟨e, he, _⟩ => by simp at he, fun ⟨_, j, h1, h2, _⟩ => absurd h2 (by omega)⟩), hbel4, hb5⟩
              case round =>
                obtain ⟨k5, n5, v2, Q2, L2, hk5, rfl, rfl, hL2, hn5, hR, hAsc, hMem, hbel5, hbx⟩ := hrel
                have HL2 : Hid (L2.length = n5) := hL2
                have HREG : Hid (Reg wr rb2 rb2 0 v2 Q2 L2) := hR
                have HMEM : Hid (Mem VB (Lst nm len k5) L2) := hMem
                have HASC2 : Hid (Asc L2) := hAsc
                clear hL2 hR hMem hAsc HR4 hbel4 hb5
                rcases Nat.eq_zero_or_pos k5 with hz5 | hp5
                · subst hz5
                  rw [show ((0 : Nat) : Int) - 1 = -1 by rfl]
                  have hall : ∀ y, Fst nm len y ↔ Lst nm len 0 y := fun y => ⟨fun ⟨j, h1, h2⟩ => ⟨j, Nat.zero_le _, h1, h2⟩, fun ⟨j, _, h1, h2⟩ => ⟨j, h1, h2⟩⟩
                  have E12 : L1.map (·.1) = L2.map (·.1) := names_eq HASC.out HASC2.out (fun y => by rw [HM1.out y, HMEM.out y, hall y])
                  obtain ⟨L0, h01, _, h03, h04⟩ := HCL.out
                  have E01 : L0.map (·.1) = L1.map (·.1) := names_eq h03 HASC.out (fun y => by rw [h04 y, HM1.out y])
                  have e1 : n2 = n4 := by
                    have := congrArg List.length E01
                    simp at this
                    have h5 := HL1.out
                    omega
                  have e2 : n5 = n4 := by
                    have := congrArg List.length E12
                    simp at this
                    have h5 := HL1.out
                    have h6 := HL2.out
                    omega
                  have HE : Hid (L1.map (·.1) = L2.map (·.1)) := E12
                  have HR1 : Hid (Reg wr rb1 rb1 0 v1 Q1 L1) := HREG1.out.below hbx (by rw [HRB3.out]; exact Nat.le_refl _)
                  clear E12 E01 hall L0 h01 h03 h04 hbx HREG1 HCL HM1 HMEM
                  subst e1
                  subst e2
                  have hn9 : n5 ≤ 1024 := by omega
                  go_wp2_with fail
                  refine (count_any rb1 rb1 0 v1 Q1 L1 wr HR1.out).mono ?_
                  rintro e wr ⟨rfl, rfl⟩
                  rw [HL1.out]
                  go_wp2_with fail
                  refine (count_any rb2 rb2 0 v2 Q2 L2 wr HREG.out).mono ?_
                  rintro e wr ⟨rfl, rfl⟩
                  rw [HL2.out]
                  obtain ⟨W9, hW9⟩ : ∃ W9, W9 = wr := ⟨_, rfl⟩
                  have HR1' : Hid (Reg W9 rb1 rb1 0 v1 Q1 L1) := by rw [hW9]; exact HR1.out
                  have HR2' : Hid (Reg W9 rb2 rb2 0 v2 Q2 L2) := by rw [hW9]; exact HREG.out
                  have hbel9 : Below w.heap.size w W9 := by rw [hW9]; exact hbel5
                  rw [← hW9]
                  clear hW9 HR1 HREG hbel5
                  go_wp2_with fail
                  go_loopw [16] (fun i wr => ∃ k : Nat, k ≤ n5 ∧ i = .int .i64 k ∧ wr = W9) (fun i _ => n5 - (intOf i).toNat)
                  case atStart => exact ⟨0, by omega, rfl, rfl⟩
                  case round =>
                    obtain ⟨k9, hk9, rfl, rfl⟩ := hrel
                    by_cases hlt9 : k9 < n5
                    · obtain ⟨d1, hd1⟩ : ∃ d1, L1[k9]? = some d1 := ⟨_, List.getElem?_eq_getElem (by have := HL1.out; omega)⟩
                      obtain ⟨d2, hd2⟩ : ∃ d2, L2[k9]? = some d2 := ⟨_, List.getElem?_eq_getElem (by have := HL2.out; omega)⟩
                      have hdd : d2.1 = d1.1 := by
                        have h := congrArg (fun l : List ByteArray => l[k9]?) HE.out
                        simp only [List.getElem?_map, hd1, hd2, Option.map_some, Option.some.injEq] at h
                        exact h.symm
                      have HDD : Hid (d2.1 = d1.1) := hdd
                      have HD1 : Hid (L1[k9]? = some d1) := hd1
                      have HD2 : Hid (L2[k9]? = some d2) := hd2
                      clear hdd hd1 hd2
                      rcases Nat.eq_zero_or_pos k9 with hz9 | hp9
                      · subst hz9
                        go_wp2_with fail
                        refine (entryName_any rb1 rb1 0 v1 Q1 L1 0 d1 _ HR1'.out HD1.out (by have := HL1.out; omega)).mono ?_
                        rintro e W9 ⟨rfl, rfl⟩
                        go_wp2_with fail
                        refine (entryName_any rb2 rb2 0 v2 Q2 L2 0 d2 _ HR2'.out HD2.out (by have := HL2.out; omega)).mono ?_
                        rintro e W9 ⟨rfl, rfl⟩
                        rw [HDD.out]
                        go_wp2
                        go_roundw
                        case rel => exact ⟨1, by omega, rfl, trivial⟩
                        case measure => simp [intOf]; omega
                      · obtain ⟨k10, rfl⟩ : ∃ k10, k9 = k10 + 1 := ⟨k9 - 1, by omega⟩
                        obtain ⟨d0, hd0⟩ : ∃ d0, L1[k10]? = some d0 := ⟨_, List.getElem?_eq_getElem (by have := HL1.out; omega)⟩
                        have hless := less_of (HASC.out k10 (k10 + 1) d0 d1 (by omega) hd0 HD1.out)
                        have HD0 : Hid (L1[k10]? = some d0) := hd0
                        clear hd0
                        go_wp2_with fail
                        refine (entryName_any rb1 rb1 0 v1 Q1 L1 (k10 + 1) d1 _ HR1'.out HD1.out (by have := HL1.out; omega)).mono ?_
                        rintro e W9 ⟨rfl, rfl⟩
                        go_wp2_with fail
                        refine (entryName_any rb2 rb2 0 v2 Q2 L2 (k10 + 1) d2 _ HR2'.out HD2.out (by have := HL2.out; omega)).mono ?_
                        rintro e W9 ⟨rfl, rfl⟩
                        rw [HDD.out]
                        go_wp2_with fail
                        refine (entryName_any rb1 rb1 0 v1 Q1 L1 k10 d0 _ HR1'.out HD0.out (by have := HL1.out; omega)).mono ?_
                        rintro e W9 ⟨rfl, rfl⟩
                        go_wp2_with fail
                        refine (entryName_any rb1 rb1 0 v1 Q1 L1 (k10 + 1) d1 _ HR1'.out HD1.out (by have := HL1.out; omega)).mono ?_
                        rintro e W9 ⟨rfl, rfl⟩
                        go_wp2
                        go_roundw
                        case rel => exact ⟨k10 + 2, by omega, by go_num, trivial⟩
                        case measure => simp [intOf]; omega
                    · go_wp2
                      go_ret
                      exact ⟨rfl, hbel9⟩
                · obtain ⟨k6, rfl⟩ : ∃ k6, k5 = k6 + 1 := ⟨k5 - 1, by omega⟩
                  rw [show ((k6 + 1 : Nat) : Int) - 1 = (k6 : Int) by omega]
                  obtain ⟨ab, ao, ha, hab, hc⟩ := HA.out (by omega)
                  subst ha
                  obtain ⟨c0w, hs⟩ := hc k6 (by omega)
                  have c0 := (hbel5.cell (p := ⟨ab, ao + k6, none⟩) hab).trans c0w
                  have G0 := (hbel5.cell (p := ⟨0, 0, none⟩) (World.block_lt_of_cell? w _ HG0.out)).trans HG0.out
                  have G1 := (hbel5.cell (p := ⟨1, 0, none⟩) (World.block_lt_of_cell? w _ HG1.out)).trans HG1.out
                  have hk6 : k6 < len := by omega
                  clear c0w hc
                  go_wp2_with fail
                  refine (gauge_any rb2 rb2 v2 Q2 L2 (nm k6) _ wr HREG.out HASC2.out (by have := HL2.out; omega) hs t0 t1 u0 u1 G0 G1 hlen3).mono ?_
                  rintro e W2 ⟨hb2, hcase⟩
                  have hbel2 := hbel5.trans (hb2.mono hws)
                  have hbx2 := hbx.trans hb2
                  clear G0 G1 c0 hb2 hbel5 hbx
                  rcases hcase with ⟨rfl, hok, i4, v3, Q3, hat, hR2⟩ | ⟨t, u, rfl, hno, v3, Q3, hR2⟩
                  · have HX : Hid (Reg W2 rb2 rb2 0 v3 Q3 (insE L2 i4 (nm k6, ⟨#[]⟩)) ∧ Asc (insE L2 i4 (nm k6, ⟨#[]⟩)) ∧ Mem VB (Lst nm len k6) (insE L2 i4 (nm k6, ⟨#[]⟩)) ∧ (insE L2 i4 (nm k6, ⟨#[]⟩)).length = n5 + 1) :=
                      ⟨hR2, insE_asc HASC2.out hat hok.2, HMEM.out.take hok.1 (fun y => lst_pred nm len k6 y hk6), by rw [insE_length _ _ _ hat.le, HL2.out]⟩
                    clear hR2 hat hok
                    go_wp2
                    go_roundw
                    case rel => exact ⟨k6, n5 + 1, _, _, _, by omega, rfl, by go_num, HX.out.2.2.2, by omega, HX.out.1, HX.out.2.1, HX.out.2.2.1, hbel2, hbx2⟩
                    case measure => simp [intOf]
                  · have HX : Hid (Reg W2 rb2 rb2 0 v3 Q3 L2 ∧ Mem VB (Lst nm len k6) L2) := ⟨hR2, HMEM.out.pass hno (fun y => lst_pred nm len k6 y hk6)⟩
                    clear hR2 hno
                    go_wp2
                    go_roundw
                    case rel => exact ⟨k6, n5, _, _, _, by omega, rfl, rfl, HL2.out, by omega, HX.out.1, HASC2.out, HX.out.2, hbel2, hbx2⟩
                    case measure => simp [intOf]
end Go.Proofs.Qxb6613043aDoor
