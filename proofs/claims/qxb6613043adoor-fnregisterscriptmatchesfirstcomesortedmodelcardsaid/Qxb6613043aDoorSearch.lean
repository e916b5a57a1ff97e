/-
  Seat b6613043aD: strings.Compare, the comparison that register hands on, slices.BinarySearchFunc.
-/
import Derived.Test.Qxb6613043aDoorPlain
import Derived.Test.Qxb6613043aDoorValid
import Derived.Laws.Externs
import Derived.Laws.OwnMore
namespace Go.Proofs.Qxb6613043aDoor
open Go.RowKit

theorem cmp_law (a b : ByteArray) (w : World) : (callFunc 36 #[.string a, .string b]).run Tryd.prog w = .ok (.value (.int .i64 (cmpI a b))) w := by
  rw [run_callFunc_extern Tryd.func36 (by kernel_rfl) (by kernel_rfl) (by kernel_rfl) (show Extern.find Tryd.f36 = some Extern.BytealgCompare.compare from by kernel_rfl), Lib.run_compareString]
  rfl
theorem cmpstr_any (a b : ByteArray) (w : World) : Calls Tryd.prog 25 #[.string a, .string b] w fun e w' => e = .returned (.int .i64 (cmpI a b)) ∧ w' = w := by
  have h := cmp_law a b
  go_enter Tryd.func25, Tryd.ntmps25
  go_wp2
  go_ret
  exact ⟨rfl, rfl⟩
theorem compare_any (a b : ByteArray) (w : World) : Calls Tryd.prog 20 #[.string a, .string b] w fun e w' => e = .returned (.int .i64 (cmpI a b)) ∧ w' = w := by
  go_enter Tryd.func20, Tryd.ntmps20
  go_wp2_with fail
  refine (cmpstr_any a b w).mono ?_
  rintro e w ⟨rfl, rfl⟩
  go_wp2
  go_ret
  exact ⟨rfl, rfl⟩
def ptr (b : Nat) : Value := .pointer (some ⟨b, 0, none⟩)
theorem clos_any (p : Nat) (nm x : ByteArray) (w : World) (hc : w.cell? ⟨p, 0, none⟩ = some (.string nm)) :
    Calls Tryd.prog 19 #[.pointer (some ⟨p, 0, none⟩), .string x] w fun e w' => e = .returned (.int .i64 (cmpI nm x)) ∧ w' = w := by
  go_enter Tryd.func19, Tryd.ntmps19
  go_wp2_with fail
  refine (compare_any nm x w).mono ?_
  rintro e w ⟨rfl, rfl⟩
  go_wp2
  go_ret
  exact ⟨rfl, rfl⟩

/-- what the search gives: the name's place, and whether it stands there -/
def Found (L : List Ent) (x : ByteArray) (w : World) (e : Ending) (w' : World) : Prop := ∃ (i : Nat) (f : Bool), e = .returned (.tuple #[.int .i64 i, .bool f]) ∧ At L x i ∧ (f = true ↔ has L x) ∧ w' = w

/-- the search over a row that is there -/
theorem search_some (L : List Ent) (Q : Nat → Nat) (g cap : Nat) (x : ByteArray) (w : World) (_hcap : L.length ≤ cap) (hn : L.length ≤ 100000) (hA : Asc L)
    (hrow : ∀ i, i < L.length → w.cell? ⟨g, i, none⟩ = some (.pointer (some ⟨Q i, 0, none⟩))) (hent : ∀ i e, L[i]? = some e → w.cell? ⟨Q i, 0, none⟩ = some (.string e.1)) :
    Calls Tryd.prog 18 #[.slice (some ⟨g, 0, none⟩) L.length cap, .string x, .func (.func 19) #[] #[]] w (Found L x w) := by
  go_enter Tryd.func18, Tryd.ntmps18
  go_wp2
  go_loop [9, 10] (fun i j => ∃ a b : Nat, a ≤ b ∧ b ≤ L.length ∧ i = .int .i64 a ∧ j = .int .i64 b ∧ (∀ t e, t < a → L[t]? = some e → Lt e.1 x) ∧ (∀ t e, b ≤ t → L[t]? = some e → ¬ Lt e.1 x)) (fun i j => (intOf j).toNat - (intOf i).toNat)
  case atStart => exact ⟨0, L.length, by omega, by omega, rfl, rfl, fun t _ ht => absurd ht (by omega), fun t e ht he => absurd (List.getElem?_eq_some_iff.1 he).1 (by omega)⟩
  case round =>
    obtain ⟨a, b, hab, hb, rfl, rfl, hlo, hhi⟩ := hrel
    have HLO : Hid (∀ t e, t < a → L[t]? = some e → Lt e.1 x) := hlo
    have HHI : Hid (∀ t e, b ≤ t → L[t]? = some e → ¬ Lt e.1 x) := hhi
    have HENT : Hid (∀ i e, L[i]? = some e → w.cell? ⟨Q i, 0, none⟩ = some (.string e.1)) := hent
    have HROW : Hid (∀ i, i < L.length → w.cell? ⟨g, i, none⟩ = some (.pointer (some ⟨Q i, 0, none⟩))) := hrow
    have HASC : Hid (Asc L) := hA
    clear hlo hhi hent hrow hA
    by_cases hlt : a < b
    · have hm : (a + b) / 2 < L.length := by omega
      have c1 := HROW.out ((a + b) / 2) hm
      have hLm : L[(a + b) / 2]? = some L[(a + b) / 2] := List.getElem?_eq_getElem hm
      have c2 := HENT.out ((a + b) / 2) _ hLm
      clear hLm
      go_wp2_with fail
      refine (clos_any _ _ x w c2).mono ?_
      rintro e w ⟨rfl, rfl⟩
      clear c1 c2
      by_cases hc : cmpI L[(a + b) / 2].1 x < 0
      · have HL : Hid (∀ t e, t < (a + b) / 2 + 1 → L[t]? = some e → Lt e.1 x) := fun t e ht he => by
          have hm1 : Lt L[(a + b) / 2].1 x := cmpI_lt.1 hc
          by_cases h2 : t = (a + b) / 2
          · subst h2; rw [List.getElem?_eq_getElem hm] at he; cases he; exact hm1
          · exact (HASC.out t _ e _ (by omega) he (List.getElem?_eq_getElem hm)).trans hm1
        go_wp2
        go_round
        case rel => exact ⟨(a + b) / 2 + 1, b, by omega, hb, by go_num, rfl, HL.out, HHI.out⟩
        case measure => simp [intOf]; omega
      · have HL : Hid (∀ t e, (a + b) / 2 ≤ t → L[t]? = some e → ¬ Lt e.1 x) := fun t e ht he hlx => by
          have hm1 : ¬ Lt L[(a + b) / 2].1 x := fun h => hc (cmpI_lt.2 h)
          by_cases h2 : t = (a + b) / 2
          · subst h2; rw [List.getElem?_eq_getElem hm] at he; cases he; exact hm1 hlx
          · exact hm1 ((HASC.out _ t _ e (by omega) (List.getElem?_eq_getElem hm) he).trans hlx)
        go_wp2
        go_round
        case rel => exact ⟨a, (a + b) / 2, by omega, by omega, rfl, by go_num, HLO.out, HL.out⟩
        case measure => simp [intOf]; omega
    · obtain rfl : a = b := by omega
      have HAT : Hid (At L x a) := ⟨by omega, HLO.out, HHI.out⟩
      by_cases hal : a < L.length
      · have c1 := HROW.out a hal
        have hLm : L[a]? = some L[a] := List.getElem?_eq_getElem hal
        have c2 := HENT.out a _ hLm
        clear hLm
        go_wp2_with fail
        refine (clos_any _ _ x w c2).mono ?_
        rintro e w ⟨rfl, rfl⟩
        clear c1 c2
        go_wp2
        go_ret2
        refine ⟨a, cmpI L[a].1 x == 0, rfl, HAT.out, ?_, rfl⟩
        rw [HAT.out.has HASC.out, beq_iff_eq, cmpI_eq]
        constructor
        · intro h; exact ⟨_, List.getElem?_eq_getElem hal, h⟩
        · rintro ⟨e, he, hx⟩; rw [List.getElem?_eq_getElem hal] at he; cases he; exact hx
      · have hd : decide ((a : Int) < (L.length : Int)) = false := by simp; omega
        go_wp2
        go_ret2
        refine ⟨a, false, rfl, HAT.out, ?_, rfl⟩
        rw [HAT.out.has HASC.out]
        constructor
        · intro h; cases h
        · rintro ⟨e, he, _⟩; exact absurd (List.getElem?_eq_some_iff.1 he).1 (by omega)
/-- the search over no row -/
theorem search_none (x : ByteArray) (w : World) :
    Calls Tryd.prog 18 #[.slice none 0 0, .string x, .func (.func 19) #[] #[]] w fun e w' => e = .returned (.tuple #[.int .i64 0, .bool false]) ∧ w' = w := by
  go_enter Tryd.func18, Tryd.ntmps18
  go_wp2
  refine wp_loop_rounds 1 ?_
  rw [rounds_succ]
  go_wp2
  go_ret2
  exact ⟨rfl, rfl⟩
end Go.Proofs.Qxb6613043aDoor
