/-
  Seat b6613043aD: the registry as a list, no Go in sight.
-/
import Derived.Lib.Bytealg
namespace Go.Proofs.Qxb6613043aDoor

/-- a string's bytes -/
def key (s : ByteArray) : List UInt8 := s.data.toList
theorem key_inj {a b : ByteArray} (h : key a = key b) : a = b := by
  obtain ⟨⟨la⟩⟩ := a
  obtain ⟨⟨lb⟩⟩ := b
  have h' : la = lb := h
  rw [h']
/-- the order of names -/
def Lt (a b : ByteArray) : Prop := key a < key b
theorem Lt.irrefl (a : ByteArray) : ¬ Lt a a := List.lt_irrefl _
theorem Lt.trans {a b c : ByteArray} (h : Lt a b) (k : Lt b c) : Lt a c := List.lt_trans h k
theorem Lt.total (a b : ByteArray) : Lt a b ∨ a = b ∨ Lt b a := by
  unfold Lt
  by_cases h : key a < key b
  · exact .inl h
  · by_cases k : key b < key a
    · exact .inr (.inr k)
    · exact .inr (.inl (key_inj (List.le_antisymm (List.not_lt.1 k) (List.not_lt.1 h))))

/-- what strings.Compare gives -/
def cmpI (a b : ByteArray) : Int := Lib.compareBytes (key a) (key b)
theorem cmp_lt : ∀ (a b : List UInt8), Lib.compareBytes a b < 0 ↔ a < b
  | [], [] => by simp [Lib.compareBytes]
  | [], _ :: _ => by simp [Lib.compareBytes]
  | _ :: _, [] => by simp [Lib.compareBytes]
  | a :: x, b :: y => by
    rw [Lib.compareBytes, List.cons_lt_cons_iff]
    by_cases h1 : a < b
    · simp [h1]
    · by_cases h2 : b < a
      · have h3 : ¬ a = b := fun e => by subst e; exact h1 h2
        simp [h1, h2, h3]
      · have h3 : a = b := UInt8.le_antisymm (UInt8.not_lt.1 h2) (UInt8.not_lt.1 h1)
        subst h3
        simp only [h1, if_false, false_or, true_and]
        exact cmp_lt x y
theorem cmp_eq0 : ∀ (a b : List UInt8), Lib.compareBytes a b = 0 ↔ a = b
  | [], [] => by simp [Lib.compareBytes]
  | [], _ :: _ => by simp [Lib.compareBytes]
  | _ :: _, [] => by simp [Lib.compareBytes]
  | a :: x, b :: y => by
    rw [Lib.compareBytes]
    by_cases h1 : a < b
    · have h3 : ¬ a = b := fun e => by subst e; exact UInt8.lt_irrefl _ h1
      simp [h1, h3]
    · by_cases h2 : b < a
      · have h3 : ¬ a = b := fun e => by subst e; exact h1 h2
        simp [h1, h2, h3]
      · have h3 : a = b := UInt8.le_antisymm (UInt8.not_lt.1 h2) (UInt8.not_lt.1 h1)
        subst h3
        simp only [h1, if_false, List.cons.injEq, true_and]
        exact cmp_eq0 x y
theorem cmpI_lt {a b : ByteArray} : cmpI a b < 0 ↔ Lt a b := cmp_lt _ _
theorem cmpI_eq {a b : ByteArray} : cmpI a b = 0 ↔ a = b := ⟨fun h => key_inj ((cmp_eq0 _ _).1 h), fun h => by subst h; exact (cmp_eq0 _ _).2 rfl⟩

/-- an entry: its name, its help -/
abbrev Ent := ByteArray × ByteArray

/-- where a name stands, or would stand -/
structure At (L : List Ent) (x : ByteArray) (i : Nat) : Prop where
  le : i ≤ L.length
  lo : ∀ (t : Nat) (e : Ent), t < i → L[t]? = some e → Lt e.1 x
  hi : ∀ (t : Nat) (e : Ent), i ≤ t → L[t]? = some e → ¬ Lt e.1 x

/-- ascending, no name twice -/
def Asc (L : List Ent) : Prop := ∀ (i j : Nat) (a b : Ent), i < j → L[i]? = some a → L[j]? = some b → Lt a.1 b.1

def has (L : List Ent) (x : ByteArray) : Prop := ∃ e ∈ L, e.1 = x

/-- in an ascending list a name stands nowhere but at its place -/
theorem At.has {L : List Ent} {x : ByteArray} {i : Nat} (h : At L x i) (hA : Asc L) : has L x ↔ ∃ e, L[i]? = some e ∧ e.1 = x := by
  constructor
  · rintro ⟨e, he, rfl⟩
    obtain ⟨t, ht, rfl⟩ := List.getElem_of_mem he
    have hte : L[t]? = some L[t] := List.getElem?_eq_getElem ht
    have h1 : ¬ t < i := fun hlt => Lt.irrefl _ (h.lo t _ hlt hte)
    by_cases h2 : t = i
    · subst h2; exact ⟨_, hte, rfl⟩
    · exfalso
      have hi : i < L.length := by omega
      have hie : L[i]? = some L[i] := List.getElem?_eq_getElem hi
      exact h.hi i _ (Nat.le_refl _) hie (hA i t _ _ (by omega) hie hte)
  · rintro ⟨e, he, rfl⟩
    exact ⟨e, List.mem_of_getElem? he, rfl⟩

/-- e laid at place i -/
def insE (L : List Ent) (i : Nat) (e : Ent) : List Ent := L.take i ++ e :: L.drop i
theorem insE_length (L : List Ent) (i : Nat) (e : Ent) (h : i ≤ L.length) : (insE L i e).length = L.length + 1 := by unfold insE; simp; omega
theorem insE_get (L : List Ent) (i : Nat) (e : Ent) (h : i ≤ L.length) (j : Nat) : (insE L i e)[j]? = if j < i then L[j]? else if j = i then some e else L[j - 1]? := by
  unfold insE
  have ht : (L.take i).length = i := by simp; omega
  by_cases h1 : j < i
  · rw [if_pos h1, List.getElem?_append_left (by omega), List.getElem?_take, if_pos h1]
  · rw [if_neg h1, List.getElem?_append_right (by omega), ht]
    by_cases h2 : j = i
    · rw [if_pos h2, h2]; simp
    · rw [if_neg h2]
      obtain ⟨k, hk⟩ : ∃ k, j - i = k + 1 := ⟨j - i - 1, by omega⟩
      rw [hk, List.getElem?_cons_succ, List.getElem?_drop]
      congr 1; omega
theorem insE_mem (L : List Ent) (i : Nat) (e d : Ent) : d ∈ insE L i e ↔ d = e ∨ d ∈ L := by
  unfold insE
  rw [List.mem_append, List.mem_cons]
  constructor
  · rintro (h | h | h)
    · exact .inr (List.mem_of_mem_take h)
    · exact .inl h
    · exact .inr (List.mem_of_mem_drop h)
  · rintro (h | h)
    · exact .inr (.inl h)
    · have := List.take_append_drop i L
      rw [← this, List.mem_append] at h
      rcases h with h | h
      · exact .inl h
      · exact .inr (.inr h)
theorem insE_asc {L : List Ent} {i : Nat} {e : Ent} (hA : Asc L) (h : At L e.1 i) (hn : ¬ has L e.1) : Asc (insE L i e) := by
  intro a b x y hab hx hy
  rw [insE_get L i e h.le] at hx hy
  have big : ∀ t d, i ≤ t → L[t]? = some d → Lt e.1 d.1 := by
    intro t d ht hd
    rcases Lt.total d.1 e.1 with k | k | k
    · exact absurd k (h.hi t d ht hd)
    · exact absurd ⟨d, List.mem_of_getElem? hd, k⟩ hn
    · exact k
  by_cases a1 : a < i
  · rw [if_pos a1] at hx
    by_cases b1 : b < i
    · rw [if_pos b1] at hy; exact hA a b x y hab hx hy
    · rw [if_neg b1] at hy
      by_cases b2 : b = i
      · rw [if_pos b2] at hy; cases hy; exact h.lo a x a1 hx
      · rw [if_neg b2] at hy; exact hA a (b - 1) x y (by omega) hx hy
  · rw [if_neg a1] at hx
    rw [if_neg (by omega), if_neg (by omega)] at hy
    by_cases a2 : a = i
    · rw [if_pos a2] at hx; cases hx; exact big (b - 1) y (by omega) hy
    · rw [if_neg a2] at hx; exact hA (a - 1) (b - 1) x y (by omega) hx hy
end Go.Proofs.Qxb6613043aDoor
