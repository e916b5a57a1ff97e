/-
  Seat b6613043aD: two ascending lists of the same names are one; the names met so far. No Go in sight.
-/
import Derived.Test.Qxb6613043aDoorPlain
namespace Go.Proofs.Qxb6613043aDoor

theorem pairwise_unique : ∀ (L M : List ByteArray), L.Pairwise Lt → M.Pairwise Lt → (∀ y, y ∈ L ↔ y ∈ M) → L = M
  | [], [], _, _, _ => rfl
  | [], b :: M, _, _, h => by have := (h b).2 (by simp); simp at this
  | a :: L, [], _, _, h => by have := (h a).1 (by simp); simp at this
  | a :: L, b :: M, hL, hM, h => by
    rw [List.pairwise_cons] at hL hM
    have hab : a = b := by
      have h1 := (h a).1 (by simp)
      have h2 := (h b).2 (by simp)
      rcases List.mem_cons.1 h1 with e | e
      · exact e
      · rcases List.mem_cons.1 h2 with e' | e'
        · exact e'.symm
        · exact absurd ((hM.1 a e).trans (hL.1 b e')) (Lt.irrefl _)
    subst hab
    rw [pairwise_unique L M hL.2 hM.2 (fun y => ?_)]
    constructor
    · intro hy
      rcases List.mem_cons.1 ((h y).1 (by simp [hy])) with e | e
      · subst e; exact absurd (hL.1 y hy) (Lt.irrefl _)
      · exact e
    · intro hy
      rcases List.mem_cons.1 ((h y).2 (by simp [hy])) with e | e
      · subst e; exact absurd (hM.1 y hy) (Lt.irrefl _)
      · exact e
theorem Asc.pairwise {L : List Ent} (h : Asc L) : (L.map (·.1)).Pairwise Lt := by
  rw [List.pairwise_iff_getElem]
  intro i j hi hj hij
  simp at hi hj
  have := h i j _ _ hij (List.getElem?_eq_getElem hi) (List.getElem?_eq_getElem hj)
  simpa using this
theorem has_mem {L : List Ent} {y : ByteArray} : has L y ↔ y ∈ L.map (·.1) := by
  unfold has
  rw [List.mem_map]
theorem names_eq {L M : List Ent} (hL : Asc L) (hM : Asc M) (h : ∀ y, has L y ↔ has M y) : L.map (·.1) = M.map (·.1) :=
  pairwise_unique _ _ hL.pairwise hM.pairwise (fun y => by rw [← has_mem, ← has_mem]; exact h y)
theorem asc_nil : Asc [] := fun _ _ _ _ _ h _ => by simp at h
theorem exists_at {L : List Ent} (x : ByteArray) (hA : Asc L) : ∃ i, At L x i := by
  -- the number of names below x
  suffices h : ∀ n, n ≤ L.length → ∃ i, i ≤ n ∧ (∀ (t : Nat) (e : Ent), t < i → L[t]? = some e → Lt e.1 x) ∧ (∀ (t : Nat) (e : Ent), i ≤ t → t < n → L[t]? = some e → ¬ Lt e.1 x) by
    obtain ⟨i, h1, h2, h3⟩ := h L.length (Nat.le_refl _)
    exact ⟨i, h1, h2, fun t e ht he => h3 t e ht (List.getElem?_eq_some_iff.1 he).1 he⟩
  intro n
  induction n with
  | zero => intro _; exact ⟨0, Nat.le_refl _, fun t e ht => absurd ht (by omega), fun t e _ ht => absurd ht (by omega)⟩
  | succ n ih =>
    intro hn
    obtain ⟨i, h1, h2, h3⟩ := ih (by omega)
    have hne : L[n]? = some L[n] := List.getElem?_eq_getElem (by omega)
    by_cases hl : Lt L[n].1 x
    · refine ⟨n + 1, Nat.le_refl _, fun t e ht he => ?_, fun t e h4 h5 => absurd h5 (by omega)⟩
      by_cases ht2 : t = n
      · subst ht2; rw [hne] at he; cases he; exact hl
      · exact (hA t n e _ (by omega) he hne).trans hl
    · refine ⟨i, by omega, h2, fun t e h4 h5 he => ?_⟩
      by_cases ht2 : t = n
      · subst ht2; rw [hne] at he; cases he; exact hl
      · exact h3 t e h4 (by omega) he

/-- the names with property p among those that q lets by -/
def Mem (V : ByteArray → Prop) (q : ByteArray → Prop) (L : List Ent) : Prop := ∀ y, has L y ↔ (V y ∧ q y)
theorem has_insE {L : List Ent} {i : Nat} {e : Ent} {y : ByteArray} : has (insE L i e) y ↔ (y = e.1 ∨ has L y) := by
  unfold has
  constructor
  · rintro ⟨d, hd, rfl⟩
    rcases (insE_mem L i e d).1 hd with rfl | h
    · exact .inl rfl
    · exact .inr ⟨d, h, rfl⟩
  · rintro (rfl | ⟨d, hd, rfl⟩)
    · exact ⟨e, (insE_mem L i e e).2 (.inl rfl), rfl⟩
    · exact ⟨d, (insE_mem L i e d).2 (.inr hd), rfl⟩
/-- one name more, taken in -/
theorem Mem.take {V q q' : ByteArray → Prop} {L : List Ent} {i : Nat} {x h : ByteArray} (hM : Mem V q L) (hx : V x) (hq : ∀ y, q' y ↔ (q y ∨ y = x)) : Mem V q' (insE L i (x, h)) := by
  intro y
  rw [has_insE, hq, hM y]
  constructor
  · rintro (e | ⟨h1, h2⟩)
    · have e' : y = x := e
      subst e'; exact ⟨hx, .inr rfl⟩
    · exact ⟨h1, .inl h2⟩
  · rintro ⟨h1, h2 | h2⟩
    · exact .inr ⟨h1, h2⟩
    · exact .inl h2
/-- one name more, passed over -/
theorem Mem.pass {V q q' : ByteArray → Prop} {L : List Ent} {x : ByteArray} (hM : Mem V q L) (hx : ¬ (V x ∧ ¬ has L x)) (hq : ∀ y, q' y ↔ (q y ∨ y = x)) : Mem V q' L := by
  intro y
  rw [hq, hM y]
  constructor
  · rintro ⟨h1, h2⟩; exact ⟨h1, .inl h2⟩
  · rintro ⟨h1, h2 | h2⟩
    · exact ⟨h1, h2⟩
    · subst h2
      have hh : has L y := Classical.byContradiction fun hn => hx ⟨h1, hn⟩
      exact (hM y).1 hh
end Go.Proofs.Qxb6613043aDoor
