/-
  Seat b6613043aD: names: metricNameOKF, validName, strings.Compare.
-/
import Derived.Test.Qxb6613043aDoorRows
import Derived.WalkKit
import Derived.ProofKit
import Derived.WalkSpells
import Derived.WalkLawsBesides
import Derived.Outline
import Derived.BigQuiet
import Derived.Below
import Derived.WalkSmall
import Derived.Lib.Bytealg
import Derived.Laws.IdiomStrings
namespace Go.Proofs.Qxb6613043aDoor
open Go.RowKit

/-- may c stand at place i of a name? -/
def good (i : Nat) (c : Int) : Bool := decide ((97 ≤ c ∧ c ≤ 122) ∨ (65 ≤ c ∧ c ≤ 90) ∨ c = 95 ∨ c = 58 ∨ (0 < i ∧ 48 ≤ c ∧ c ≤ 57))
def validB (s : ByteArray) : Bool := decide (0 < s.size ∧ ∀ i (h : i < s.size), good i (s[i].toNat : Int) = true)

theorem good_letter {i : Nat} {c : Int} (h : (97 ≤ c ∧ c ≤ 122) ∨ (65 ≤ c ∧ c ≤ 90) ∨ c = 95 ∨ c = 58) : good i c = true := decide_eq_true (by omega)
theorem good_digit {i : Nat} {c : Int} (hi : 0 < i) (h : 48 ≤ c ∧ c ≤ 57) : good i c = true := decide_eq_true (by omega)
theorem good_not {i : Nat} {c : Int} (h : ¬((97 ≤ c ∧ c ≤ 122) ∨ (65 ≤ c ∧ c ≤ 90) ∨ c = 95 ∨ c = 58 ∨ (0 < i ∧ 48 ≤ c ∧ c ≤ 57))) : good i c = false := decide_eq_false h

theorem validB_yes {s : ByteArray} (h0 : 0 < s.size) (h : ∀ i (h : i < s.size), good i (s[i].toNat : Int) = true) : validB s = true := decide_eq_true ⟨h0, h⟩
theorem validB_no {s : ByteArray} {k : Nat} (hk : k < s.size) (h : good k (s[k].toNat : Int) = false) : validB s = false :=
  decide_eq_false fun hh => by have := hh.2 k hk; rw [h] at this; cases this
theorem validB_empty {s : ByteArray} (h : s.size = 0) : validB s = false := decide_eq_false fun hh => by have := hh.1; omega

set_option maxHeartbeats 2000000 in
theorem nameOK_any (s : ByteArray) (w : World) (hs : s.size ≤ 9223372036854775807) :
    Calls Tryd.prog 8 #[.string s] w fun e w' => e = .returned (.bool (validB s)) ∧ w' = w := by
  by_cases h0 : s.size = 0
  · have hv := validB_empty h0
    have hz : ((s.size : Int) == 0) = true := by simp [h0]
    have HV : Hid (validB s = false) := hv
    clear h0 hv
    go_enter Tryd.func8, Tryd.ntmps8
    go_wp2
    go_ret
    rw [HV.out]
    exact ⟨rfl, rfl⟩
  have hz : ((s.size : Int) == 0) = false := beq_eq_false_iff_ne.2 (by omega)
  have hpos : 0 < s.size := by omega
  clear h0
  go_enter Tryd.func8, Tryd.ntmps8
  go_wp2
  go_loop [3] (fun i => ∃ k : Nat, k ≤ s.size ∧ i = .int .i64 k ∧ ∀ j (h : j < s.size), j < k → good j (s[j].toNat : Int) = true) (fun i => s.size - (intOf i).toNat)
  case atStart => exact ⟨0, by omega, rfl, fun j _ hj => absurd hj (by omega)⟩
  case round =>
    obtain ⟨k, hk, rfl, hG⟩ := hrel
    have HG : Hid (∀ j (h : j < s.size), j < k → good j (s[j].toNat : Int) = true) := hG
    clear hG
    by_cases hlt : k < s.size
    · have b0 : (0 : Int) ≤ (s[k].toNat : Int) := by omega
      have b1 : (s[k].toNat : Int) ≤ 255 := by have := s[k].toNat_lt; omega
      by_cases hl : (97 ≤ (s[k].toNat : Int) ∧ (s[k].toNat : Int) ≤ 122) ∨ (65 ≤ (s[k].toNat : Int) ∧ (s[k].toNat : Int) ≤ 90) ∨ (95 ≤ (s[k].toNat : Int) ∧ (s[k].toNat : Int) ≤ 95) ∨ (58 ≤ (s[k].toNat : Int) ∧ (s[k].toNat : Int) ≤ 58)
      · have HL : Hid (good k (s[k].toNat : Int) = true) := good_letter (by omega)
        rcases hl with ⟨l1, l2⟩ | ⟨l1, l2⟩ | ⟨l1, l2⟩ | ⟨l1, l2⟩
        all_goals
          try (have e95 : ((s[k].toNat : Int) == 95) = false := beq_eq_false_iff_ne.2 (by omega))
          try (have e95 : ((s[k].toNat : Int) == 95) = true := beq_iff_eq.2 (by omega))
          try (have e58 : ((s[k].toNat : Int) == 58) = true := beq_iff_eq.2 (by omega))
          go_wp2
          go_round
          case rel => exact ⟨k + 1, by omega, by go_num, fun j hj hjk => by by_cases e : j = k; (· subst e; exact HL.out); (· exact HG.out j hj (by omega))⟩
          case measure => simp [intOf]; omega
      · by_cases hd : 0 < k ∧ 48 ≤ (s[k].toNat : Int) ∧ (s[k].toNat : Int) ≤ 57
        · obtain ⟨k0, l1, l2⟩ := hd
          have HL : Hid (good k (s[k].toNat : Int) = true) := good_digit k0 ⟨l1, l2⟩
          have e95 : ((s[k].toNat : Int) == 95) = false := beq_eq_false_iff_ne.2 (by omega)
          have e58 : ((s[k].toNat : Int) == 58) = false := beq_eq_false_iff_ne.2 (by omega)
          have d97 : decide (97 ≤ (s[k].toNat : Int)) = false := decide_eq_false (by omega)
          have d65 : decide (65 ≤ (s[k].toNat : Int)) = false := decide_eq_false (by omega)
          clear hl
          go_wp2
          go_round
          case rel => exact ⟨k + 1, by omega, by go_num, fun j hj hjk => by by_cases e : j = k; (· subst e; exact HL.out); (· exact HG.out j hj (by omega))⟩
          case measure => simp [intOf]; omega
        · have hv : validB s = false := validB_no hlt (good_not (by omega))
          have HV : Hid (validB s = false) := hv
          clear hv HG
          rcases (by omega : (s[k].toNat : Int) < 48 ∨ (k < 1 ∧ 48 ≤ (s[k].toNat : Int) ∧ (s[k].toNat : Int) ≤ 57) ∨ (59 ≤ (s[k].toNat : Int) ∧ (s[k].toNat : Int) ≤ 64) ∨ (91 ≤ (s[k].toNat : Int) ∧ (s[k].toNat : Int) ≤ 94) ∨ (96 ≤ (s[k].toNat : Int) ∧ (s[k].toNat : Int) ≤ 96) ∨ (123 ≤ (s[k].toNat : Int))) with l1 | ⟨l0, l1, l2⟩ | ⟨l1, l2⟩ | ⟨l1, l2⟩ | ⟨l1, l2⟩ | l1
          all_goals
            have e95 : ((s[k].toNat : Int) == 95) = false := beq_eq_false_iff_ne.2 (by omega)
            have e58 : ((s[k].toNat : Int) == 58) = false := beq_eq_false_iff_ne.2 (by omega)
            clear hl hd
            go_wp2
            all_goals
              go_ret
              rw [HV.out]
              exact ⟨rfl, rfl⟩
    · have hv : validB s = true := validB_yes (by omega) (fun i hi => HG.out i hi (by omega))
      have HV : Hid (validB s = true) := hv
      clear hv
      go_wp2
      go_ret
      rw [HV.out]
      exact ⟨rfl, rfl⟩
end Go.Proofs.Qxb6613043aDoor
