/-
  Seat b6613043a: the plain law on floats as words, no Go in sight.
-/
import Derived.Laws.FloatArith
namespace Go.Proofs.Qxb6613043a
open Ieee

theorem order_self (x : Nat) : double.order x x = none ∨ double.order x x = some .eq := by
  unfold Format.order
  generalize double.read x = d
  cases d with
  | nan s t => left; rfl
  | infinity s => right; cases s <;> rfl
  | number s m i => right; simp [Datum.order]

/-- a word that equals nought reads as a number without magnitude -/
theorem zero_of_order {x : Nat} (h : double.order x 0 = some .eq) : ∃ s i, double.read x = .number s 0 i := by
  unfold Format.order at h
  have h0 : double.read 0 = .number false 0 double.leastPlace := by decide +kernel
  rw [h0] at h
  generalize double.read x = d at h
  cases d with
  | nan s t => simp [Datum.order] at h
  | infinity s => cases s <;> simp [Datum.order] at h
  | number s m i =>
    refine ⟨s, i, ?_⟩
    simp only [Datum.order, Option.some.injEq] at h
    have e := Int.compare_eq_eq.1 h
    have hm : m = 0 := by
      unfold signed at e
      simp only [Nat.shiftLeft_eq, Nat.zero_mul] at e
      cases s
      all_goals
        simp at e
        rcases Int.mul_eq_zero.1 e with h | h
        · omega
        · exact absurd h (Int.ne_of_gt (Int.pow_pos (by decide)))
    rw [hm]

/-- one by nought is an infinity: no NaN -/
theorem one_by_zero {x : Nat} (h : double.order x 0 = some .eq) : ∃ r, double.div 4607182418800017408 x = some r := by
  obtain ⟨s, i, hx⟩ := zero_of_order h
  have h1 : double.read 4607182418800017408 = .number false 4503599627370496 (-52) := by decide +kernel
  unfold Format.div
  rw [hx, h1]
  exact ⟨_, rfl⟩

/-- a NaN's word -/
def IsNaN (x : Nat) : Prop := double.order x x = none

theorem nan_cut (t : Nat) : IsNaN ((t % 2) * 2 ^ 63 + 0x7ff0000000000000 + 1 + (t / 2) % (2 ^ 52 - 1)) := by
  have hw : double.signWeight = 9223372036854775808 := by decide +kernel
  have hb : double.binade = 4503599627370496 := by decide +kernel
  have hi : double.infRung = 9218868437227405312 := by decide +kernel
  generalize hx : (t % 2) * 2 ^ 63 + 0x7ff0000000000000 + 1 + (t / 2) % (2 ^ 52 - 1) = x
  have hmod : x % 9223372036854775808 = 0x7ff0000000000000 + 1 + (t / 2) % (2 ^ 52 - 1) := by omega
  have hlt : (t / 2) % (2 ^ 52 - 1) < 2 ^ 52 - 1 := Nat.mod_lt _ (by decide)
  unfold IsNaN Format.order
  have hr : ∃ s f, double.read x = .nan s f := by
    unfold Format.read
    rw [hw, hb, hi]
    simp only
    rw [if_neg (by omega), if_neg (by omega), if_neg (by omega)]
    exact ⟨_, _, rfl⟩
  obtain ⟨s, f, hr⟩ := hr
  rw [hr]
  rfl

/-- what '+' may give -/
def FAdd (x y r : Nat) : Prop := double.add x y = some r ∨ (double.add x y = none ∧ IsNaN r)

/-- two sums of the same words: one word, or two NaNs -/
theorem FAdd.two {x y r s : Nat} (h : FAdd x y r) (k : FAdd x y s) : r = s ∨ (IsNaN r ∧ IsNaN s) := by
  rcases h with h | ⟨h, hr⟩ <;> rcases k with k | ⟨k, hs⟩
  · left; rw [h] at k; exact Option.some.inj k
  · rw [h] at k; cases k
  · rw [h] at k; cases k
  · exact .inr ⟨hr, hs⟩
end Go.Proofs.Qxb6613043a
