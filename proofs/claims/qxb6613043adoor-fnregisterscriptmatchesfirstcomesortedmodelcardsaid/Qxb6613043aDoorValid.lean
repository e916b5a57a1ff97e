/-
  Seat b6613043aD: validName, ValidMetricName.
-/
import Derived.Test.Qxb6613043aDoorStr
namespace Go.Proofs.Qxb6613043aDoor
open Go.RowKit

theorem toList_data (s : ByteArray) : s.toList = s.data.toList := ByteArray.toList_eq s
theorem bytes_cell (s : ByteArray) (w : World) (cap : Nat) (fr : Nat × Nat) (j : Nat) (hj : j < s.size) : ((w.alloc (.cells (bytesRow s cap) 5 fr)).drew).cell? ⟨w.heap.size, j, none⟩ = some (.int .u8 (s[j].toNat : Int)) := by
  show (w.alloc (.cells (bytesRow s cap) 5 fr)).cell? ⟨w.heap.size, j, none⟩ = _
  rw [World.cell?_alloc_mark, bytesRow_at s cap j hj]
  rfl

set_option maxHeartbeats 4000000 in
theorem validName_any (s : ByteArray) (w : World) (hs : s.size ≤ 9223372036854775807) :
    Calls Tryd.prog 22 #[.string s, .bool true] w fun e w' => e = .returned (.bool (validB s)) ∧ Below w.heap.size w w' := by
  by_cases h0 : s.size = 0
  · have hv := validB_empty h0
    have hz : s.toList.isEmpty = true := by rw [toList_data]; exact List.isEmpty_iff_length_eq_zero.2 (by simpa using h0)
    have HV : Hid (validB s = false) := hv
    clear h0 hv
    go_enter Tryd.func22, Tryd.ntmps22
    go_wp2
    go_ret
    rw [HV.out]
    exact ⟨rfl, Below.refl _ _⟩
  have hz : s.toList.isEmpty = false := by
    rw [toList_data, List.isEmpty_eq_false_iff_exists_mem]
    exact ⟨s.data.toList[0]'(by simp; omega), List.getElem_mem _⟩
  have hpos : 0 < s.size := by omega
  clear h0
  have hcv := run_bytes_of_string (P := Tryd.prog) w 9 70 5 s Tryd.underlying9 Tryd.underlying70 Tryd.underlying5
  have hcell := bytes_cell s w (grownCap w s.size 0 5) ((bytesRow s (grownCap w s.size 0 5)).size, (bytesRow s (grownCap w s.size 0 5)).size + 1)
  have hbel : Below w.heap.size w (w.alloc (.cells (bytesRow s (grownCap w s.size 0 5)) 5 ((bytesRow s (grownCap w s.size 0 5)).size, (bytesRow s (grownCap w s.size 0 5)).size + 1))).drew := ((Below.refl _ _).alloc (Nat.le_refl _) _).drew
  go_enter Tryd.func22, Tryd.ntmps22
  go_wp2
  clear hcv
  generalize (w.alloc (.cells (bytesRow s (grownCap w s.size 0 5)) 5 ((bytesRow s (grownCap w s.size 0 5)).size, (bytesRow s (grownCap w s.size 0 5)).size + 1))).drew = W at hcell hbel ⊢
  generalize grownCap w s.size 0 5 = G
  generalize w.heap.size = b at hcell ⊢
  have HC : Hid (∀ j (hj : j < s.size), W.cell? ⟨b, j, none⟩ = some (.int .u8 (s[j].toNat : Int))) := hcell
  clear hcell
  go_loop [12] (fun i => ∃ k : Nat, k ≤ s.size ∧ i = .int .i64 k ∧ ∀ j (h : j < s.size), j < k → good j (s[j].toNat : Int) = true) (fun i => s.size - (intOf i).toNat)
  case atStart => exact ⟨0, by omega, rfl, fun j _ hj => absurd hj (by omega)⟩
  case round =>
    obtain ⟨k, hk, rfl, hG⟩ := hrel
    have HG : Hid (∀ j (h : j < s.size), j < k → good j (s[j].toNat : Int) = true) := hG
    clear hG
    by_cases hlt : k < s.size
    · have hck := HC.out k hlt
      have b1 : (s[k].toNat : Int) ≤ 255 := by have := s[k].toNat_lt; omega
      have b0 : (0 : Int) ≤ (s[k].toNat : Int) := by omega
      by_cases hl : (97 ≤ (s[k].toNat : Int) ∧ (s[k].toNat : Int) ≤ 122) ∨ (65 ≤ (s[k].toNat : Int) ∧ (s[k].toNat : Int) ≤ 90) ∨ (95 ≤ (s[k].toNat : Int) ∧ (s[k].toNat : Int) ≤ 95) ∨ (58 ≤ (s[k].toNat : Int) ∧ (s[k].toNat : Int) ≤ 58)
      · have HL : Hid (good k (s[k].toNat : Int) = true) := good_letter (by omega)
        rcases hl with ⟨l1, l2⟩ | ⟨l1, l2⟩ | ⟨l1, l2⟩ | ⟨l1, l2⟩
        all_goals
          try (have e95 : ((s[k].toNat : Int) == 95) = false := beq_eq_false_iff_ne.2 (by omega))
          try (have e95 : ((s[k].toNat : Int) == 95) = true := beq_iff_eq.2 (by omega))
          try (have e58 : ((s[k].toNat : Int) == 58) = false := beq_eq_false_iff_ne.2 (by omega))
          try (have e58 : ((s[k].toNat : Int) == 58) = true := beq_iff_eq.2 (by omega))
          try (have d97 : decide (97 ≤ (s[k].toNat : Int)) = false := decide_eq_false (by omega))
          go_wp2
          go_round
          case rel => exact ⟨k + 1, by omega, by go_num, fun j hj hjk => by by_cases e : j = k; (· subst e; exact HL.out); (· exact HG.out j hj (by omega))⟩
          case measure => simp [intOf]; omega
      · by_cases hd : 0 < k ∧ 48 ≤ (s[k].toNat : Int) ∧ (s[k].toNat : Int) ≤ 57
        · obtain ⟨k0, l1, l2⟩ := hd
          have HL : Hid (good k (s[k].toNat : Int) = true) := good_digit k0 ⟨l1, l2⟩
          have e95 : ((s[k].toNat : Int) == 95) = false := beq_eq_false_iff_ne.2 (by omega)
          have e58 : ((s[k].toNat : Int) == 58) = false := beq_eq_false_iff_ne.2 (by omega)
          have d97 : decide (97 ≤ (s[k].toNat : Int)) = false := decide_eq_false (by omega)
          have d65 : decide (65 ≤ (s[k].toNat : Int)) = false := decide_eq_false (by omega)
          clear hl
          go_wp2
          go_round
          case rel => exact ⟨k + 1, by omega, by go_num, fun j hj hjk => by by_cases e : j = k; (· subst e; exact HL.out); (· exact HG.out j hj (by omega))⟩
          case measure => simp [intOf]; omega
        · have hv : validB s = false := validB_no hlt (good_not (by omega))
          have HV : Hid (validB s = false) := hv
          clear hv HG
          rcases (by omega : (s[k].toNat : Int) < 48 ∨ (k < 1 ∧ 48 ≤ (s[k].toNat : Int) ∧ (s[k].toNat : Int) ≤ 57) ∨ (59 ≤ (s[k].toNat : Int) ∧ (s[k].toNat : Int) ≤ 64) ∨ (91 ≤ (s[k].toNat : Int) ∧ (s[k].toNat : Int) ≤ 94) ∨ (96 ≤ (s[k].toNat : Int) ∧ (s[k].toNat : Int) ≤ 96) ∨ (123 ≤ (s[k].toNat : Int))) with l1 | ⟨l0, l1, l2⟩ | ⟨l1, l2⟩ | ⟨l1, l2⟩ | ⟨l1, l2⟩ | l1
          all_goals
            have e95 : ((s[k].toNat : Int) == 95) = false := beq_eq_false_iff_ne.2 (by omega)
            have e58 : ((s[k].toNat : Int) == 58) = false := beq_eq_false_iff_ne.2 (by omega)
            clear hl hd
            go_wp2
            all_goals
              go_ret
              rw [HV.out]
              exact ⟨rfl, hbel⟩
    · have hv : validB s = true := validB_yes (by omega) (fun i hi => HG.out i hi (by omega))
      have HV : Hid (validB s = true) := hv
      clear hv
      go_wp2
      go_ret
      rw [HV.out]
      exact ⟨rfl, hbel⟩
theorem valid_any (s : ByteArray) (w : World) (hs : s.size ≤ 9223372036854775807) :
    Calls Tryd.prog 15 #[.string s] w fun e w' => e = .returned (.bool (validB s)) ∧ Below w.heap.size w w' := by
  go_enter Tryd.func15, Tryd.ntmps15
  go_wp2_with fail
  refine (validName_any s w hs).mono ?_
  rintro e w' ⟨rfl, hb⟩
  go_wp2
  go_ret
  exact ⟨rfl, hb⟩
end Go.Proofs.Qxb6613043aDoor
