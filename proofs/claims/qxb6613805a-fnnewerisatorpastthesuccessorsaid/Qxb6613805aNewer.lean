/-
  Seat b6613805a: Newer by a contract, and the walks of the two laws over it.
-/
import Derived.Test.Qxb6613805aRows
import Derived.WalkKit
import Derived.ProofKit
import Derived.OpenShut
import Derived.ShutString
namespace Go.Proofs.Qxb6613805a
open Go.ChangeShapes Go.WideShapes Go.ChangeAt Go.RowKit

theorem newer_yes (v s v2 s2 : Int) (w : World) (h : v2 < v ∨ (v = v2 ∧ s2 < s)) :
    Calls Try.prog 9 #[.int .u64 v, .int .u64 s, .int .u64 v2, .int .u64 s2] w fun e w' => e = .returned (.bool true) ∧ w' = w := by
  rcases h with h | ⟨rfl, h⟩
  · go_enter Try.func9, Try.ntmps9
    go_wp2
    go_ret
    exact ⟨rfl, rfl⟩
  · go_enter Try.func9, Try.ntmps9
    go_wp2
    go_ret
    exact ⟨rfl, rfl⟩
theorem newer_no (v s v2 s2 : Int) (w : World) (h : v < v2 ∨ (v = v2 ∧ s ≤ s2)) :
    Calls Try.prog 9 #[.int .u64 v, .int .u64 s, .int .u64 v2, .int .u64 s2] w fun e w' => e = .returned (.bool false) ∧ w' = w := by
  rcases h with h | ⟨rfl, h⟩
  · have d1 : decide (v2 < v) = false := by simp; omega
    have d2 : (v == v2) = false := by simp; omega
    go_enter Try.func9, Try.ntmps9
    go_wp2
    go_ret
    exact ⟨rfl, rfl⟩
  · have d1 : decide (s2 < s) = false := by simp; omega
    go_enter Try.func9, Try.ntmps9
    go_wp2
    go_ret
    exact ⟨rfl, rfl⟩

theorem order_walk (v s v2 s2 : Int) (w : World) :
    Calls Try.prog 3 #[.int .u64 v, .int .u64 s, .int .u64 v2, .int .u64 s2] w fun e w' => e = .returned (.bool true) ∧ w' = w := by
  by_cases h1 : v2 < v ∨ (v = v2 ∧ s2 < s)
  · have e1 : v = v2 → (s == s2) = false := by intro _; simp; omega
    have h2 : v2 < v ∨ (v2 = v ∧ s2 ≤ s) := by omega
    by_cases hv : v = v2
    · subst hv
      have e2 := e1 rfl
      have d0 : (v == v) = true := by simp
      have hs : s2 < s := by omega
      clear e1 h1 h2
      go_enter Try.func3, Try.ntmps3
      go_wp2_with fail
      refine (newer_yes v s v s2 w (.inr ⟨rfl, hs⟩)).mono ?_
      rintro e w ⟨rfl, rfl⟩
      go_wp2_with fail
      refine (newer_no v s2 v s w (.inr ⟨rfl, Int.le_of_lt hs⟩)).mono ?_
      rintro e w ⟨rfl, rfl⟩
      go_wp2
      go_ret
      exact ⟨rfl, rfl⟩
    · have d0 : (v == v2) = false := by simpa using hv
      have H1 : Hid (v2 < v ∨ (v = v2 ∧ s2 < s)) := h1
      have H2 : Hid (v2 < v ∨ (v2 = v ∧ s2 ≤ s)) := h2
      clear h1 h2 e1 hv
      go_enter Try.func3, Try.ntmps3
      go_wp2_with fail
      refine (newer_yes v s v2 s2 w H1.out).mono ?_
      rintro e w ⟨rfl, rfl⟩
      go_wp2_with fail
      refine (newer_no v2 s2 v s w H2.out).mono ?_
      rintro e w ⟨rfl, rfl⟩
      go_wp2
      go_ret
      exact ⟨rfl, rfl⟩
  · by_cases hq : v = v2 ∧ s = s2
    · obtain ⟨rfl, rfl⟩ := hq
      clear h1
      have d0 : (v == v) = true := by simp
      have d1 : (s == s) = true := by simp
      go_enter Try.func3, Try.ntmps3
      go_wp2_with fail
      refine (newer_no v s v s w (by omega)).mono ?_
      rintro e w ⟨rfl, rfl⟩
      go_wp2_with fail
      refine (newer_no v s v s w (by omega)).mono ?_
      rintro e w ⟨rfl, rfl⟩
      go_wp2
      go_ret
      exact ⟨rfl, rfl⟩
    · have h2 : v < v2 ∨ (v = v2 ∧ s ≤ s2) := by omega
      have h3 : v < v2 ∨ (v2 = v ∧ s < s2) := by omega
      have H2 : Hid (v < v2 ∨ (v = v2 ∧ s ≤ s2)) := h2
      have H3 : Hid (v < v2 ∨ (v2 = v ∧ s < s2)) := h3
      by_cases hv : v = v2
      · subst hv
        have e2 : (s == s2) = false := by simp; omega
        have d0 : (v == v) = true := by simp
        have hs : s < s2 := by omega
        clear h1 h2 h3 hq H2 H3
        go_enter Try.func3, Try.ntmps3
        go_wp2_with fail
        refine (newer_no v s v s2 w (.inr ⟨rfl, Int.le_of_lt hs⟩)).mono ?_
        rintro e w ⟨rfl, rfl⟩
        go_wp2_with fail
        refine (newer_yes v s2 v s w (.inr ⟨rfl, hs⟩)).mono ?_
        rintro e w ⟨rfl, rfl⟩
        go_wp2
        go_ret
        exact ⟨rfl, rfl⟩
      · have d0 : (v == v2) = false := by simpa using hv
        clear h1 h2 h3 hq hv
        go_enter Try.func3, Try.ntmps3
        go_wp2_with fail
        refine (newer_no v s v2 s2 w H2.out).mono ?_
        rintro e w ⟨rfl, rfl⟩
        go_wp2_with fail
        refine (newer_yes v2 s2 v s w H3.out).mono ?_
        rintro e w ⟨rfl, rfl⟩
        go_wp2
        go_ret
        exact ⟨rfl, rfl⟩

/-! ### the successor -/
theorem newer_of {b : Bool} (v s v2 s2 : Int) (w : World) (h : b = decide (v2 < v ∨ (v = v2 ∧ s2 < s))) :
    Calls Try.prog 9 #[.int .u64 v, .int .u64 s, .int .u64 v2, .int .u64 s2] w fun e w' => e = .returned (.bool b) ∧ w' = w := by
  subst h
  by_cases h : v2 < v ∨ (v = v2 ∧ s2 < s)
  · rw [decide_eq_true h]; exact newer_yes v s v2 s2 w h
  · rw [decide_eq_false h]; exact newer_no v s v2 s2 w (by omega)

/-- the law behind the head: b1: isNext, b2: Newer of the pair, b3: Newer of the successor -/
theorem succ_tail (v s v2 s2 nv ns : Int) (h : (v2 < v ∨ (v = v2 ∧ s2 < s)) ↔ ((v = nv ∧ s = ns) ∨ (nv < v ∨ (v = nv ∧ ns < s)))) :
    decide (v2 < v ∨ (v = v2 ∧ s2 < s)) = (decide (v = nv ∧ s = ns) || decide (nv < v ∨ (v = nv ∧ ns < s))) := by
  rw [Bool.eq_iff_iff, Bool.or_eq_true, decide_eq_true_iff, decide_eq_true_iff, decide_eq_true_iff]; exact h

set_option maxHeartbeats 1000000 in
theorem succ_walk (v s v2 s2 : Int) (hs0 : 0 ≤ s) (hs : s ≤ 18446744073709551615) (hv20 : 0 ≤ v2) (hv2 : v2 ≤ 18446744073709551615) (hs20 : 0 ≤ s2) (hs2 : s2 ≤ 18446744073709551615) (w : World) :
    Calls Try.prog 4 #[.int .u64 v, .int .u64 s, .int .u64 v2, .int .u64 s2] w fun e w' => e = .returned (.bool true) ∧ w' = w := by
  by_cases hms : s2 = 18446744073709551615
  · have d3 : (s2 == 18446744073709551615) = true := by simpa using hms
    by_cases hmv : v2 = 18446744073709551615
    · have d2 : (v2 == 18446744073709551615) = true := by simpa using hmv
      clear hms hmv hs0 hs hv20 hv2 hs20 hs2
      go_enter Try.func4, Try.ntmps4
      go_wp2
      go_ret
      exact ⟨rfl, rfl⟩
    · have d2 : (v2 == 18446744073709551615) = false := by simpa using hmv
      have hlt : v2 ≤ 18446744073709551614 := by omega
      have T := succ_tail v s v2 s2 (v2 + 1) 0 (by omega)
      have HT : Hid (decide (v2 < v ∨ (v = v2 ∧ s2 < s)) = (decide (v = v2 + 1 ∧ s = 0) || decide (v2 + 1 < v ∨ (v = v2 + 1 ∧ 0 < s)))) := T
      clear hms hmv T
      by_cases q1 : v = v2 + 1
      · by_cases q2 : s = 0
        · have e1 : (v == v2 + 1) = true := by simpa using q1
          have e2 : (s == 0) = true := by simpa using q2
          have hb : true = decide (v2 < v ∨ (v = v2 ∧ s2 < s)) := by rw [HT.out, decide_eq_true (⟨q1, q2⟩ : v = v2 + 1 ∧ s = 0)]; rfl
          have HB : Hid (true = decide (v2 < v ∨ (v = v2 ∧ s2 < s))) := hb
          clear q1 q2 hb HT hs0 hs
          go_enter Try.func4, Try.ntmps4
          go_wp2_with fail
          refine (newer_of v s v2 s2 w HB.out).mono ?_
          rintro e w ⟨rfl, rfl⟩
          go_wp2
          go_ret
          exact ⟨rfl, rfl⟩
        · have e1 : (v == v2 + 1) = true := by simpa using q1
          have e2 : (s == 0) = false := by simpa using q2
          have hb : decide (v2 + 1 < v ∨ (v = v2 + 1 ∧ 0 < s)) = decide (v2 < v ∨ (v = v2 ∧ s2 < s)) := by rw [HT.out, decide_eq_false (fun h : v = v2 + 1 ∧ s = 0 => q2 h.2)]; rfl
          obtain ⟨b3, hb3⟩ : ∃ b3, b3 = decide (v2 + 1 < v ∨ (v = v2 + 1 ∧ 0 < s)) := ⟨_, rfl⟩
          rw [← hb3] at hb
          have HB : Hid (b3 = decide (v2 < v ∨ (v = v2 ∧ s2 < s))) := hb
          have HC : Hid (b3 = decide (v2 + 1 < v ∨ (v = v2 + 1 ∧ 0 < s))) := hb3
          clear q1 q2 hb hb3 HT hs0 hs
          go_enter Try.func4, Try.ntmps4
          go_wp2_with fail
          refine (newer_of v s v2 s2 w HB.out).mono ?_
          rintro e w ⟨rfl, rfl⟩
          go_wp2_with fail
          refine (newer_of v s _ _ w HC.out).mono ?_
          rintro e w ⟨rfl, rfl⟩
          have hbb : (b3 == b3) = true := by simp
          go_wp2
          go_ret
          exact ⟨rfl, rfl⟩
      · have e1 : (v == v2 + 1) = false := by simpa using q1
        have hb : decide (v2 + 1 < v ∨ (v = v2 + 1 ∧ 0 < s)) = decide (v2 < v ∨ (v = v2 ∧ s2 < s)) := by rw [HT.out, decide_eq_false (fun h : v = v2 + 1 ∧ s = 0 => q1 h.1)]; rfl
        obtain ⟨b3, hb3⟩ : ∃ b3, b3 = decide (v2 + 1 < v ∨ (v = v2 + 1 ∧ 0 < s)) := ⟨_, rfl⟩
        rw [← hb3] at hb
        have HB : Hid (b3 = decide (v2 < v ∨ (v = v2 ∧ s2 < s))) := hb
        have HC : Hid (b3 = decide (v2 + 1 < v ∨ (v = v2 + 1 ∧ 0 < s))) := hb3
        clear q1 hb hb3 HT hs0 hs
        go_enter Try.func4, Try.ntmps4
        go_wp2_with fail
        refine (newer_of v s v2 s2 w HB.out).mono ?_
        rintro e w ⟨rfl, rfl⟩
        go_wp2_with fail
        refine (newer_of v s _ _ w HC.out).mono ?_
        rintro e w ⟨rfl, rfl⟩
        have hbb : (b3 == b3) = true := by simp
        go_wp2
        go_ret
        exact ⟨rfl, rfl⟩
  · have d3 : (s2 == 18446744073709551615) = false := by simpa using hms
    have hlt : s2 ≤ 18446744073709551614 := by omega
    have T := succ_tail v s v2 s2 v2 (s2 + 1) (by omega)
    have HT : Hid (decide (v2 < v ∨ (v = v2 ∧ s2 < s)) = (decide (v = v2 ∧ s = s2 + 1) || decide (v2 < v ∨ (v = v2 ∧ s2 + 1 < s)))) := T
    clear hms T
    cases d2 : (v2 == 18446744073709551615) with
    | false =>
      by_cases q1 : v = v2
      · by_cases q2 : s = s2 + 1
        · have e1 : (v == v2) = true := by simpa using q1
          have e2 : (s == s2 + 1) = true := by simpa using q2
          have hb : true = decide (v2 < v ∨ (v = v2 ∧ s2 < s)) := by rw [HT.out, decide_eq_true (⟨q1, q2⟩ : v = v2 ∧ s = s2 + 1)]; rfl
          have HB : Hid (true = decide (v2 < v ∨ (v = v2 ∧ s2 < s))) := hb
          clear q1 q2 hb HT hs0 hs
          go_enter Try.func4, Try.ntmps4
          go_wp2_with fail
          refine (newer_of v s v2 s2 w HB.out).mono ?_
          rintro e w ⟨rfl, rfl⟩
          go_wp2
          go_ret
          exact ⟨rfl, rfl⟩
        · have e1 : (v == v2) = true := by simpa using q1
          have e2 : (s == s2 + 1) = false := by simpa using q2
          have hb : decide (v2 < v ∨ (v = v2 ∧ s2 + 1 < s)) = decide (v2 < v ∨ (v = v2 ∧ s2 < s)) := by rw [HT.out, decide_eq_false (fun h : v = v2 ∧ s = s2 + 1 => q2 h.2)]; rfl
          obtain ⟨b3, hb3⟩ : ∃ b3, b3 = decide (v2 < v ∨ (v = v2 ∧ s2 + 1 < s)) := ⟨_, rfl⟩
          rw [← hb3] at hb
          have HB : Hid (b3 = decide (v2 < v ∨ (v = v2 ∧ s2 < s))) := hb
          have HC : Hid (b3 = decide (v2 < v ∨ (v = v2 ∧ s2 + 1 < s))) := hb3
          clear q1 q2 hb hb3 HT hs0 hs
          go_enter Try.func4, Try.ntmps4
          go_wp2_with fail
          refine (newer_of v s v2 s2 w HB.out).mono ?_
          rintro e w ⟨rfl, rfl⟩
          go_wp2_with fail
          refine (newer_of v s _ _ w HC.out).mono ?_
          rintro e w ⟨rfl, rfl⟩
          have hbb : (b3 == b3) = true := by simp
          go_wp2
          go_ret
          exact ⟨rfl, rfl⟩
      · have e1 : (v == v2) = false := by simpa using q1
        have hb : decide (v2 < v ∨ (v = v2 ∧ s2 + 1 < s)) = decide (v2 < v ∨ (v = v2 ∧ s2 < s)) := by rw [HT.out, decide_eq_false (fun h : v = v2 ∧ s = s2 + 1 => q1 h.1)]; rfl
        obtain ⟨b3, hb3⟩ : ∃ b3, b3 = decide (v2 < v ∨ (v = v2 ∧ s2 + 1 < s)) := ⟨_, rfl⟩
        rw [← hb3] at hb
        have HB : Hid (b3 = decide (v2 < v ∨ (v = v2 ∧ s2 < s))) := hb
        have HC : Hid (b3 = decide (v2 < v ∨ (v = v2 ∧ s2 + 1 < s))) := hb3
        clear q1 hb hb3 HT hs0 hs
        go_enter Try.func4, Try.ntmps4
        go_wp2_with fail
        refine (newer_of v s v2 s2 w HB.out).mono ?_
        rintro e w ⟨rfl, rfl⟩
        go_wp2_with fail
        refine (newer_of v s _ _ w HC.out).mono ?_
        rintro e w ⟨rfl, rfl⟩
        have hbb : (b3 == b3) = true := by simp
        go_wp2
        go_ret
        exact ⟨rfl, rfl⟩
    | true =>
      obtain rfl : v2 = 18446744073709551615 := by simpa using d2
      clear d2
      by_cases q1 : v = 18446744073709551615
      · by_cases q2 : s = s2 + 1
        · have e1 : (v == 18446744073709551615) = true := by simpa using q1
          have e2 : (s == s2 + 1) = true := by simpa using q2
          have hb : true = decide (18446744073709551615 < v ∨ (v = 18446744073709551615 ∧ s2 < s)) := by rw [HT.out, decide_eq_true (⟨q1, q2⟩ : v = 18446744073709551615 ∧ s = s2 + 1)]; rfl
          have HB : Hid (true = decide (18446744073709551615 < v ∨ (v = 18446744073709551615 ∧ s2 < s))) := hb
          clear q1 q2 hb HT hs0 hs
          go_enter Try.func4, Try.ntmps4
          go_wp2_with fail
          refine (newer_of v s 18446744073709551615 s2 w HB.out).mono ?_
          rintro e w ⟨rfl, rfl⟩
          go_wp2
          go_ret
          exact ⟨rfl, rfl⟩
        · have e1 : (v == 18446744073709551615) = true := by simpa using q1
          have e2 : (s == s2 + 1) = false := by simpa using q2
          have hb : decide (18446744073709551615 < v ∨ (v = 18446744073709551615 ∧ s2 + 1 < s)) = decide (18446744073709551615 < v ∨ (v = 18446744073709551615 ∧ s2 < s)) := by rw [HT.out, decide_eq_false (fun h : v = 18446744073709551615 ∧ s = s2 + 1 => q2 h.2)]; rfl
          obtain ⟨b3, hb3⟩ : ∃ b3, b3 = decide (18446744073709551615 < v ∨ (v = 18446744073709551615 ∧ s2 + 1 < s)) := ⟨_, rfl⟩
          rw [← hb3] at hb
          have HB : Hid (b3 = decide (18446744073709551615 < v ∨ (v = 18446744073709551615 ∧ s2 < s))) := hb
          have HC : Hid (b3 = decide (18446744073709551615 < v ∨ (v = 18446744073709551615 ∧ s2 + 1 < s))) := hb3
          clear q1 q2 hb hb3 HT hs0 hs
          go_enter Try.func4, Try.ntmps4
          go_wp2_with fail
          refine (newer_of v s 18446744073709551615 s2 w HB.out).mono ?_
          rintro e w ⟨rfl, rfl⟩
          go_wp2_with fail
          refine (newer_of v s _ _ w HC.out).mono ?_
          rintro e w ⟨rfl, rfl⟩
          have hbb : (b3 == b3) = true := by simp
          go_wp2
          go_ret
          exact ⟨rfl, rfl⟩
      · have e1 : (v == 18446744073709551615) = false := by simpa using q1
        have hb : decide (18446744073709551615 < v ∨ (v = 18446744073709551615 ∧ s2 + 1 < s)) = decide (18446744073709551615 < v ∨ (v = 18446744073709551615 ∧ s2 < s)) := by rw [HT.out, decide_eq_false (fun h : v = 18446744073709551615 ∧ s = s2 + 1 => q1 h.1)]; rfl
        obtain ⟨b3, hb3⟩ : ∃ b3, b3 = decide (18446744073709551615 < v ∨ (v = 18446744073709551615 ∧ s2 + 1 < s)) := ⟨_, rfl⟩
        rw [← hb3] at hb
        have HB : Hid (b3 = decide (18446744073709551615 < v ∨ (v = 18446744073709551615 ∧ s2 < s))) := hb
        have HC : Hid (b3 = decide (18446744073709551615 < v ∨ (v = 18446744073709551615 ∧ s2 + 1 < s))) := hb3
        clear q1 hb hb3 HT hs0 hs
        go_enter Try.func4, Try.ntmps4
        go_wp2_with fail
        refine (newer_of v s 18446744073709551615 s2 w HB.out).mono ?_
        rintro e w ⟨rfl, rfl⟩
        go_wp2_with fail
        refine (newer_of v s _ _ w HC.out).mono ?_
        rintro e w ⟨rfl, rfl⟩
        have hbb : (b3 == b3) = true := by simp
        go_wp2
        go_ret
        exact ⟨rfl, rfl⟩
end Go.Proofs.Qxb6613805a
