/-
  Seat b6613015a: the buckets that came in ([]Bucket, a struct of three ints), opened.
-/
import Derived.Test.Qxb6613015aPre
import Derived.Deep.Slices
import Derived.Deep.Strs
namespace Go.Proofs.Qxb6613015a
open Go.ChangeShapes Go.WideShapes Go.ChangeAt Go.RowKit

/-- what the walk is told of the buckets that came in -/
def IsBk (w : World) (a : Option Addr) (len : Nat) (Z : Nat → Int) : Prop :=
  0 < len → ∃ b o, a = some ⟨b, o, none⟩ ∧ b < w.heap.size ∧ ∀ i, i < len * 3 → w.cell? ⟨b, o + i, none⟩ = some (.int .i64 (Z i))

theorem cells37 : Try.prog.cellsOf 37 = 3 := by kernel_rfl
theorem cells3 : Try.prog.cellsOf 3 = 1 := by kernel_rfl

theorem open_bk {H : Type} {enc : TypeId × Value → H} {W : World} {a : Option Addr} {len cap : Nat} {d : DataW H} {p : List MemPlace}
    (h : DataW.Trod enc Try.prog W 0 (fun _ => true) true 33 (.slice a len cap) d p) : ∃ Z, IsBk W a len Z := by
  obtain ⟨fuel, hf⟩ := h
  rcases Go.Deep.open_slice Try.underlying33 hf with ⟨hcs, _⟩ | ⟨x, l, c, m, n, D, Pl, hcs, _, hlc, _, hm, _, hel⟩
  · simp [Value.cells] at hcs
    obtain ⟨rfl, rfl, rfl⟩ := hcs
    exact ⟨fun _ => 0, fun h => absurd h (by omega)⟩
  · simp [Value.cells] at hcs
    obtain ⟨rfl, rfl, rfl⟩ := hcs
    simp at hm
    subst hm
    have key : ∀ i, i < len * 3 → ∃ z, W.cell? (x.add i) = some (.int .i64 z) := by
      intro i hi
      obtain ⟨cs', h1, h2⟩ := hel (i / 3) (by omega)
      rw [cells37] at h1
      obtain ⟨_, hl3, hcell⟩ := World.cells?_some h1
      obtain ⟨y0, y1, y2, n', _, _, e0, e1, e2⟩ := Go.Deep.trod_struct3 Try.underlying37 h2
      simp only [cells3] at e0 e1 e2
      obtain ⟨z0, q0, _, _⟩ := DataW.trod_int Try.underlying3 e0
      obtain ⟨z1, q1, _, _⟩ := DataW.trod_int Try.underlying3 e1
      obtain ⟨z2, q2, _, _⟩ := DataW.trod_int Try.underlying3 e2
      have hk := hcell (i % 3) (Nat.mod_lt _ (by omega))
      rw [Go.Deep.add_add, show i / 3 * 3 + i % 3 = i from by omega] at hk
      rw [hk]
      match cs', hl3, q0, q1, q2 with
      | [u0, u1, u2], _, q0, q1, q2 =>
        simp at q0 q1 q2
        subst q0 q1 q2
        rcases (by omega : i % 3 = 0 ∨ i % 3 = 1 ∨ i % 3 = 2) with h | h | h <;> rw [h]
        · exact ⟨z0, rfl⟩
        · exact ⟨z1, rfl⟩
        · exact ⟨z2, rfl⟩
    obtain ⟨Z, hZ⟩ := Go.Deep.choose_lt (α := Int) key
    refine ⟨Z, fun hpos => ?_⟩
    have h0 := hZ 0 (by omega)
    obtain ⟨_, _, _, _, hsp⟩ := World.shape?_of_cell? h0
    have hsp' : x.spot = none := by simpa [Addr.add] using hsp
    obtain ⟨xb, xo, xs⟩ := x
    simp at hsp'
    subst hsp'
    refine ⟨xb, xo, rfl, ?_, fun i hi => ?_⟩
    · have := World.block_lt_of_cell? W _ h0
      simpa [Addr.add] using this
    · have := hZ i hi
      rwa [Addr.add_lit] at this
end Go.Proofs.Qxb6613015a
