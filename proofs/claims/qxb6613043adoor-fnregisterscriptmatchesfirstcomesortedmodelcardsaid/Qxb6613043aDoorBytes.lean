/-
  Seat b6613043aD: the names that came in ([]string); the bounds on total length.
-/
import Derived.Test.Qxb6613043aDoorRegister
import Derived.Test.Qxb6613043aDoorPlain2
namespace Go.Proofs.Qxb6613043aDoor
open Go.RowKit

/-- what the walk is told of a []string that came in -/
def IsStr (w : World) (a : Option Addr) (len : Nat) (nm : Nat → ByteArray) : Prop :=
  0 < len → ∃ b o, a = some ⟨b, o, none⟩ ∧ b < w.heap.size ∧ ∀ i, i < len → w.cell? ⟨b, o + i, none⟩ = some (.string (nm i)) ∧ (nm i).size ≤ 9223372036854775807
/-- it returned some bool -/
def IsB (e : Ending) : Prop := ∃ r, e = .returned (.bool r)

set_option maxHeartbeats 1000000 in
theorem bytes4_any (a : Option Addr) (len cap : Nat) (nm : Nat → ByteArray) (w : World) (hA : IsStr w a len nm) :
    Calls Tryd.prog 13 #[.slice a len cap] w fun e w' => IsB e ∧ w' = w := by
  by_cases hl : 1048576 < len
  · go_enter Tryd.func13, Tryd.ntmps13
    go_wp2
    go_ret
    exact ⟨⟨_, rfl⟩, rfl⟩
  go_enter Tryd.func13, Tryd.ntmps13
  go_wp2
  go_loop [3, 4] (fun z i => ∃ k : Nat, k ≤ len ∧ i = .int .i64 k ∧ ∃ x, z = .int .i64 x) (fun _ i => len - (intOf i).toNat)
  case atStart => exact ⟨0, by omega, rfl, _, rfl⟩
  case round =>
    obtain ⟨k, hk, rfl, x, rfl⟩ := hrel
    by_cases hlt : k < len
    · obtain ⟨ab, ao, ha, hab, hc⟩ := hA (by omega)
      obtain ⟨c0, hs⟩ := hc k hlt
      subst ha
      clear hc hA
      generalize nm k = s at c0 hs
      go_wp2
      all_goals first
        | (go_ret; exact ⟨⟨_, rfl⟩, rfl⟩)
        | skip
      all_goals
        go_round
        case rel => exact ⟨k + 1, by omega, by go_num, _, rfl⟩
        case measure => simp [intOf]; omega
    · go_wp2
      go_ret
      exact ⟨⟨_, rfl⟩, rfl⟩
end Go.Proofs.Qxb6613043aDoor
