/-
  Seat b6613015a: what the two laws over buckets share: bucketOK, the bound on lengths, the numbers of the positions.
-/
import Derived.Test.Qxb6613015aClear
namespace Go.Proofs.Qxb6613015a
open Go.RowKit

theorem zzBytes5_yes (a : Option Addr) (len cap : Nat) (m wd : Int) (w : World) (h : len ≤ 1048576) :
    Calls Try.prog 13 #[.slice a len cap, .int .i64 m, .int .i64 wd] w fun e w' => e = .returned (.bool true) ∧ w' = w := by
  go_enter Try.func13, Try.ntmps13
  go_wp2
  go_ret
  exact ⟨rfl, rfl⟩
theorem zzBytes5_no (a : Option Addr) (len cap : Nat) (m wd : Int) (w : World) (h : 1048576 < len) :
    Calls Try.prog 13 #[.slice a len cap, .int .i64 m, .int .i64 wd] w fun e w' => e = .returned (.bool false) ∧ w' = w := by
  go_enter Try.func13, Try.ntmps13
  go_wp2
  go_ret
  exact ⟨rfl, rfl⟩
theorem zzBytes6_yes (a : Option Addr) (len cap : Nat) (m wd : Int) (w : World) (h : len ≤ 1048576) :
    Calls Try.prog 24 #[.slice a len cap, .int .i64 m, .int .i64 wd] w fun e w' => e = .returned (.bool true) ∧ w' = w := by
  go_enter Try.func24, Try.ntmps24
  go_wp2
  go_ret
  exact ⟨rfl, rfl⟩
theorem zzBytes6_no (a : Option Addr) (len cap : Nat) (m wd : Int) (w : World) (h : 1048576 < len) :
    Calls Try.prog 24 #[.slice a len cap, .int .i64 m, .int .i64 wd] w fun e w' => e = .returned (.bool false) ∧ w' = w := by
  go_enter Try.func24, Try.ntmps24
  go_wp2
  go_ret
  exact ⟨rfl, rfl⟩
/-- it returned some bool -/
def IsB (e : Ending) : Prop := ∃ r, e = .returned (.bool r)
theorem bucketOK_any (c f s : Int) (w : World) :
    Calls Try.prog 14 #[.agg #[.int .i64 c, .int .i64 f, .int .i64 s]] w fun e w' => IsB e ∧ Below w.heap.size w w' := by
  by_cases h1 : 0 ≤ c
  · by_cases h2 : c ≤ 65536
    · by_cases h3 : 0 ≤ f
      · by_cases h4 : f ≤ c
        · by_cases h5 : 0 ≤ s
          · go_enter Try.func14, Try.ntmps14
            go_wp2
            go_ret
            exact ⟨⟨_, rfl⟩, (Below.refl _ _).alloc (Nat.le_refl _) _⟩
          · have d : decide (0 ≤ s) = false := by simpa using h5
            go_enter Try.func14, Try.ntmps14
            go_wp2
            go_ret
            exact ⟨⟨_, rfl⟩, (Below.refl _ _).alloc (Nat.le_refl _) _⟩
        · have d : decide (f ≤ c) = false := by simpa using h4
          go_enter Try.func14, Try.ntmps14
          go_wp2
          go_ret
          exact ⟨⟨_, rfl⟩, (Below.refl _ _).alloc (Nat.le_refl _) _⟩
      · have d : decide (0 ≤ f) = false := by simpa using h3
        go_enter Try.func14, Try.ntmps14
        go_wp2
        go_ret
        exact ⟨⟨_, rfl⟩, (Below.refl _ _).alloc (Nat.le_refl _) _⟩
    · have d : decide (c ≤ 65536) = false := by simpa using h2
      go_enter Try.func14, Try.ntmps14
      go_wp2
      go_ret
      exact ⟨⟨_, rfl⟩, (Below.refl _ _).alloc (Nat.le_refl _) _⟩
  · have d : decide (0 ≤ c) = false := by simpa using h1
    go_enter Try.func14, Try.ntmps14
    go_wp2
    go_ret
    exact ⟨⟨_, rfl⟩, (Below.refl _ _).alloc (Nat.le_refl _) _⟩

/-! ### the positions -/
theorem flg_two (m c : Int) : flg m c = 0 ∨ flg m c = 2147483648 := by unfold flg; split <;> simp
def bef (m c : Int) : Int := nx (nx 0 (flg m 0)) (flg m c)
def aft (m c : Int) : Int := nx (hld (bef m c)) (flg m 0)
def aft2 (m c : Int) : Int := nx (hld (aft m c)) (flg m 0)
theorem bef_div (m c : Int) : bef m c / 17179869184 = 2 := by
  unfold bef
  rcases flg_two m 0 with h | h <;> rcases flg_two m c with k | k <;> rw [h, k] <;> decide +kernel
theorem aft_yes (m c : Int) (h : m ≤ 0) : aft m c = 53687091200 := by
  unfold aft bef
  rw [flg_yes h]
  rcases flg_two m c with k | k <;> rw [k] <;> decide +kernel
theorem aft_no (m c : Int) (h : 0 < m) : aft m c = 51539607552 := by
  unfold aft bef
  rw [flg_no h]
  rcases flg_two m c with k | k <;> rw [k] <;> decide +kernel
theorem aft2_yes (m c : Int) (h : m ≤ 0) : aft2 m c = 70866960384 := by
  unfold aft2
  rw [aft_yes m c h, flg_yes h]; decide +kernel
theorem aft2_no (m c : Int) (h : 0 < m) : aft2 m c = 68719476736 := by
  unfold aft2
  rw [aft_no m c h, flg_no h]; decide +kernel
theorem mark (m c : Int) : nx (bef m c) 0 = 51539607552 := by
  unfold bef
  rcases flg_two m 0 with h | h <;> rcases flg_two m c with k | k <;> rw [h, k] <;> decide +kernel
theorem fresh_yes (m : Int) (h : m ≤ 0) : nx 0 (flg m 0) = 19327352832 := by rw [flg_yes h]; decide +kernel
theorem fresh_no (m : Int) (h : 0 < m) : nx 0 (flg m 0) = 17179869184 := by rw [flg_no h]; decide +kernel
end Go.Proofs.Qxb6613015a
