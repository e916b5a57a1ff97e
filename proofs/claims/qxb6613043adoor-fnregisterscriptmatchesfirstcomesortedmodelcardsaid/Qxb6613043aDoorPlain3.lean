/-
  Seat b6613043aD: the accepted names in the order they came; the insertion sort by swaps. No Go in sight.
-/
import Derived.Test.Qxb6613043aDoorPlain2
namespace Go.Proofs.Qxb6613043aDoor

/-- no name twice -/
def Dist (M : List Ent) : Prop := ∀ (a b : Nat) (x y : Ent), a ≠ b → M[a]? = some x → M[b]? = some y → x.1 ≠ y.1
/-- the same entries, none twice -/
structure Same (M L : List Ent) : Prop where
  mem : ∀ e, e ∈ M ↔ e ∈ L
  len : M.length = L.length
  dist : Dist M
theorem Same.has {M L : List Ent} (h : Same M L) (x : ByteArray) : has M x ↔ has L x :=
  ⟨fun ⟨e, h1, h2⟩ => ⟨e, (h.mem e).1 h1, h2⟩, fun ⟨e, h1, h2⟩ => ⟨e, (h.mem e).2 h1, h2⟩⟩
theorem same_nil : Same [] [] := ⟨fun _ => Iff.rfl, rfl, fun _ _ _ _ _ h => by simp at h⟩
/-- one entry more, accepted -/
theorem Same.take {M L : List Ent} {i : Nat} {e : Ent} (h : Same M L) (hi : i ≤ L.length) (hn : ¬ Qxb6613043aDoor.has L e.1) : Same (M ++ [e]) (insE L i e) where
  mem := fun d => by
    rw [insE_mem, List.mem_append, List.mem_singleton, h.mem d]
    exact ⟨fun k => k.symm, fun k => k.symm⟩
  len := by rw [insE_length L i e hi, List.length_append, h.len]; rfl
  dist := by
    have hn' : ¬ Qxb6613043aDoor.has M e.1 := fun k => hn ((h.has _).1 k)
    intro a b x y hab hx hy heq
    rw [List.getElem?_append] at hx hy
    by_cases h1 : a < M.length
    · rw [if_pos h1] at hx
      by_cases h2 : b < M.length
      · rw [if_pos h2] at hy
        exact h.dist a b x y hab hx hy heq
      · rw [if_neg h2] at hy
        have hy2 := List.mem_of_getElem? hy
        rw [List.mem_singleton] at hy2
        subst hy2
        exact hn' ⟨x, List.mem_of_getElem? hx, heq⟩
    · rw [if_neg h1] at hx
      have hx2 := List.mem_of_getElem? hx
      rw [List.mem_singleton] at hx2
      subst hx2
      by_cases h2 : b < M.length
      · rw [if_pos h2] at hy
        exact hn' ⟨y, List.mem_of_getElem? hy, heq.symm⟩
      · rw [if_neg h2] at hy
        have h3 := (List.getElem?_eq_some_iff.1 hx).1
        have h4 := (List.getElem?_eq_some_iff.1 hy).1
        simp at h3 h4
        omega

theorem ent_pairwise_unique : ∀ (L M : List Ent), L.Pairwise (fun a b => Lt a.1 b.1) → M.Pairwise (fun a b => Lt a.1 b.1) → (∀ y, y ∈ L ↔ y ∈ M) → L = M
  | [], [], _, _, _ => rfl
  | [], b :: M, _, _, h => by have := (h b).2 (by simp); simp at this
  | a :: L, [], _, _, h => by have := (h a).1 (by simp); simp at this
  | a :: L, b :: M, hL, hM, h => by
    rw [List.pairwise_cons] at hL hM
    have hab : a = b := by
      have h1 := (h a).1 (by simp)
      have h2 := (h b).2 (by simp)
      rcases List.mem_cons.1 h1 with e | e
      · exact e
      · rcases List.mem_cons.1 h2 with e' | e'
        · exact e'.symm
        · exact absurd ((hM.1 a e).trans (hL.1 b e')) (Lt.irrefl _)
    subst hab
    rw [ent_pairwise_unique L M hL.2 hM.2 (fun y => ?_)]
    constructor
    · intro hy
      rcases List.mem_cons.1 ((h y).1 (by simp [hy])) with e | e
      · subst e; exact absurd (hL.1 y hy) (Lt.irrefl _)
      · exact e
    · intro hy
      rcases List.mem_cons.1 ((h y).2 (by simp [hy])) with e | e
      · subst e; exact absurd (hM.1 y hy) (Lt.irrefl _)
      · exact e
theorem Asc.pairwiseE {L : List Ent} (h : Asc L) : L.Pairwise (fun a b => Lt a.1 b.1) := by
  rw [List.pairwise_iff_getElem]
  intro i j hi hj hij
  exact h i j _ _ hij (List.getElem?_eq_getElem hi) (List.getElem?_eq_getElem hj)
theorem Same.eq {M L : List Ent} (h : Same M L) (hM : Asc M) (hL : Asc L) : M = L := ent_pairwise_unique M L hM.pairwiseE hL.pairwiseE h.mem

/-- two neighbours change places -/
def sw (M : List Ent) (j : Nat) (d0 d1 : Ent) : List Ent := (M.set (j + 1) d0).set j d1
def sg (j t : Nat) : Nat := if t = j then j + 1 else if t = j + 1 then j else t
theorem sg_sg (j t : Nat) : sg j (sg j t) = t := by
  unfold sg
  by_cases h1 : t = j
  · subst h1; simp
  · by_cases h2 : t = j + 1
    · subst h2; simp
    · simp [h1, h2]
theorem sw_length (M : List Ent) (j : Nat) (d0 d1 : Ent) : (sw M j d0 d1).length = M.length := by simp [sw]
theorem sw_get {M : List Ent} {j : Nat} {d0 d1 : Ent} (h0 : M[j]? = some d0) (h1 : M[j + 1]? = some d1) (t : Nat) : (sw M j d0 d1)[t]? = M[sg j t]? := by
  have hl := (List.getElem?_eq_some_iff.1 h1).1
  unfold sw sg
  rw [List.getElem?_set, List.getElem?_set]
  by_cases e1 : t = j
  · subst e1
    simp [h1, show t < M.length by omega]
  · by_cases e2 : t = j + 1
    · subst e2
      simp [h0, hl]
    · rw [if_neg (fun e => e1 e.symm), if_neg (fun e => e2 e.symm), if_neg e1, if_neg e2]
theorem Same.sw {M L : List Ent} {j : Nat} {d0 d1 : Ent} (h : Same M L) (h0 : M[j]? = some d0) (h1 : M[j + 1]? = some d1) : Same (sw M j d0 d1) L where
  mem := fun e => by
    rw [← h.mem e]
    constructor
    · intro he
      obtain ⟨t, ht⟩ := List.getElem?_of_mem he
      rw [sw_get h0 h1] at ht
      exact List.mem_of_getElem? ht
    · intro he
      obtain ⟨t, ht⟩ := List.getElem?_of_mem he
      have : (Qxb6613043aDoor.sw M j d0 d1)[sg j t]? = some e := by rw [sw_get h0 h1, sg_sg]; exact ht
      exact List.mem_of_getElem? this
  len := by rw [sw_length]; exact h.len
  dist := by
    intro a b x y hab hx hy
    rw [sw_get h0 h1] at hx hy
    exact h.dist (sg j a) (sg j b) x y (fun e => hab (by have := congrArg (sg j) e; rwa [sg_sg, sg_sg] at this)) hx hy

/-- the first i are in order -/
def SoTo (M : List Ent) (i : Nat) : Prop := ∀ (a b : Nat) (x y : Ent), a < b → b < i → M[a]? = some x → M[b]? = some y → Lt x.1 y.1
/-- the first i + 1 are in order, but for the one at j, that may lie too far back -/
def Part (M : List Ent) (i j : Nat) : Prop := ∀ (a b : Nat) (x y : Ent), a < b → b ≤ i → b ≠ j → M[a]? = some x → M[b]? = some y → Lt x.1 y.1
theorem soTo_one (M : List Ent) : SoTo M 1 := fun a b _ _ h1 h2 => by omega
theorem SoTo.part {M : List Ent} {i : Nat} (h : SoTo M i) : Part M i i := fun a b x y h1 h2 h3 => h a b x y h1 (by omega)
theorem Part.zero {M : List Ent} {i : Nat} (h : Part M i 0) : SoTo M (i + 1) := fun a b x y h1 h2 => h a b x y h1 (by omega) (by omega)
theorem Part.stop {M : List Ent} {i j : Nat} {d0 d1 : Ent} (h : Part M i (j + 1)) (h0 : M[j]? = some d0) (h1 : M[j + 1]? = some d1) (hl : Lt d0.1 d1.1) : SoTo M (i + 1) := by
  intro a b x y hab hb hx hy
  by_cases e : b = j + 1
  · subst e
    rw [h1] at hy
    cases hy
    by_cases e2 : a = j
    · subst e2; rw [h0] at hx; cases hx; exact hl
    · exact (h a j x d0 (by omega) (by omega) (by omega) hx h0).trans hl
  · exact h a b x y hab (by omega) e hx hy
theorem Part.sw {M : List Ent} {i j : Nat} {d0 d1 : Ent} (h : Part M i (j + 1)) (h0 : M[j]? = some d0) (h1 : M[j + 1]? = some d1) (hl : Lt d1.1 d0.1) : Part (sw M j d0 d1) i j := by
  intro a b x y hab hb hbj hx hy
  rw [sw_get h0 h1] at hx hy
  unfold sg at hx hy
  rw [if_neg hbj] at hy
  by_cases e1 : b = j + 1
  · rw [if_pos e1, h0] at hy
    cases hy
    by_cases e2 : a = j
    · rw [if_pos e2, h1] at hx; cases hx; exact hl
    · rw [if_neg e2, if_neg (by omega)] at hx
      exact h a j x d0 (by omega) (by omega) (by omega) hx h0
  · rw [if_neg e1] at hy
    by_cases e2 : a = j
    · rw [if_pos e2] at hx
      exact h (j + 1) b x y (by omega) hb e1 hx hy
    · rw [if_neg e2] at hx
      by_cases e3 : a = j + 1
      · rw [if_pos e3] at hx
        exact h j b x y (by omega) hb e1 hx hy
      · rw [if_neg e3] at hx
        exact h a b x y hab hb e1 hx hy
theorem SoTo.asc {M : List Ent} {i : Nat} (h : SoTo M i) (hi : M.length ≤ i) : Asc M := fun a b x y hab hx hy => h a b x y hab (by have := (List.getElem?_eq_some_iff.1 hy).1; omega) hx hy
end Go.Proofs.Qxb6613043aDoor
