import Derived.Test.Qxb6603452aWd
import Derived.Lib.Bytealg
set_option linter.unusedVariables false
set_option linter.unusedSimpArgs false
namespace Go.Sg
open Go

abbrev lt (a b : List UInt8) : Prop := Op.bytesLess a b = true
theorem lt_irr : ∀ l : List UInt8, ¬ lt l l
  | [] => by simp [lt, Op.bytesLess]
  | a :: l => by
    have := lt_irr l
    simp only [lt] at this
    simp [lt, Op.bytesLess, this]
theorem lt_trans : ∀ {a b c : List UInt8}, lt a b → lt b c → lt a c
  | _, [], _, h, _ => by simp [lt, Op.bytesLess] at h
  | _, _ :: _, [], _, h => by simp [lt, Op.bytesLess] at h
  | [], _ :: _, _ :: _, _, _ => by simp [lt, Op.bytesLess]
  | a :: x, b :: y, c :: z, h1, h2 => by
    simp only [lt, Op.bytesLess, Bool.or_eq_true, decide_eq_true_eq, Bool.and_eq_true, beq_iff_eq] at h1 h2 ⊢
    rcases h1 with h1 | ⟨rfl, h1⟩
    · rcases h2 with h2 | ⟨rfl, h2⟩
      · exact Or.inl (UInt8.lt_trans h1 h2)
      · exact Or.inl h1
    · rcases h2 with h2 | ⟨rfl, h2⟩
      · exact Or.inl h2
      · exact Or.inr ⟨rfl, lt_trans h1 h2⟩
theorem lt_tri : ∀ {a b : List UInt8}, ¬ lt a b → ¬ lt b a → a = b
  | [], [], _, _ => rfl
  | [], _ :: _, h, _ => by simp [lt, Op.bytesLess] at h
  | _ :: _, [], _, h => by simp [lt, Op.bytesLess] at h
  | a :: x, b :: y, h1, h2 => by
    simp only [lt, Op.bytesLess, Bool.or_eq_true, decide_eq_true_eq, Bool.and_eq_true, beq_iff_eq, not_or, not_and] at h1 h2
    have e : a = b := by
      rcases UInt8.lt_or_lt_of_ne (a := a) (b := b) |> fun f => Classical.em (a = b) with h | h
      · exact h
      · rcases UInt8.lt_or_lt_of_ne h with g | g
        · exact absurd g h1.1
        · exact absurd g h2.1
    subst e
    rw [lt_tri (h1.2 rfl) (h2.2 rfl)]
theorem cmp_lt : ∀ (a b : List UInt8), Lib.compareBytes a b < 0 ↔ lt a b
  | [], [] => by simp [Lib.compareBytes, lt, Op.bytesLess]
  | [], _ :: _ => by simp [Lib.compareBytes, lt, Op.bytesLess]
  | _ :: _, [] => by simp [Lib.compareBytes, lt, Op.bytesLess]
  | a :: x, b :: y => by
    have ih := cmp_lt x y
    simp only [lt] at ih
    simp only [Lib.compareBytes, lt, Op.bytesLess, Bool.or_eq_true, decide_eq_true_eq, Bool.and_eq_true, beq_iff_eq]
    by_cases h1 : a < b
    · simp [h1]
    · by_cases h2 : b < a
      · simp only [h1, h2, if_false, if_true, false_or]
        constructor
        · intro h; omega
        · rintro ⟨rfl, _⟩; exact absurd h2 h1
      · have e : a = b := by
          rcases Classical.em (a = b) with h | h
          · exact h
          · rcases UInt8.lt_or_lt_of_ne h with g | g
            · exact absurd g h1
            · exact absurd g h2
        subst e
        simp only [h1, if_false, false_or, true_and]
        exact ih
theorem cmp_gt : ∀ (a b : List UInt8), 0 < Lib.compareBytes a b ↔ lt b a
  | [], [] => by simp [Lib.compareBytes, lt, Op.bytesLess]
  | [], _ :: _ => by simp [Lib.compareBytes, lt, Op.bytesLess]
  | _ :: _, [] => by simp [Lib.compareBytes, lt, Op.bytesLess]
  | a :: x, b :: y => by
    have ih := cmp_gt x y
    simp only [lt] at ih
    simp only [Lib.compareBytes, lt, Op.bytesLess, Bool.or_eq_true, decide_eq_true_eq, Bool.and_eq_true, beq_iff_eq]
    by_cases h1 : a < b
    · have h2 : ¬ b < a := fun h => absurd (UInt8.lt_trans h1 h) (UInt8.lt_irrefl a)
      simp only [h1, if_true, h2, false_or]
      constructor
      · intro h; omega
      · rintro ⟨rfl, _⟩; exact absurd h1 (UInt8.lt_irrefl _)
    · by_cases h2 : b < a
      · simp [h1, h2]
      · have e : a = b := by
          rcases Classical.em (a = b) with h | h
          · exact h
          · rcases UInt8.lt_or_lt_of_ne h with g | g
            · exact absurd g h1
            · exact absurd g h2
        subst e
        simp only [h1, if_false, false_or, true_and]
        exact ih

/-- ascending, each once -/
def Asc (A : Nat → List UInt8) (n : Nat) : Prop := ∀ i j, i < j → j < n → lt (A i) (A j)
theorem asc_of {A : Nat → List UInt8} {n : Nat} (h : ∀ i, i + 1 < n → lt (A i) (A (i + 1))) : Asc A n := by
  intro i j hij hj
  induction j with
  | zero => omega
  | succ j ih =>
    by_cases e : i = j
    · subst e; exact h i hj
    · exact lt_trans (ih (by omega) (by omega)) (h j hj)
/-- each of the first n of A is one of the first m of B -/
def Sub (A : Nat → List UInt8) (n : Nat) (B : Nat → List UInt8) (m : Nat) : Prop := ∀ i, i < n → ∃ j, j < m ∧ B j = A i

/-- half of the merge's invariant -/
def Mh (A B : Nat → List UInt8) (m i j c : Nat) : Prop := (∀ i' j', i' < i → j ≤ j' → j' < m → lt (A i') (B j')) ∧ c ≤ i ∧ (c = i ↔ Sub A i B m)
section
variable {A B : Nat → List UInt8} {n m i j c : Nat}
theorem mh_start : Mh A B m 0 0 0 := ⟨fun _ _ h => by omega, by omega, fun _ _ h => by omega, fun _ => rfl⟩
theorem mh_a (hA : i < n) (hB : Asc B m) (h : Mh A B m i j c) (k : Mh B A n j i c) (hl : lt (A i) (B j)) (hj : j < m) : Mh A B m (i + 1) j c := by
  have new : ∀ j', j ≤ j' → j' < m → lt (A i) (B j') := fun j' h1 h2 => by
    by_cases e : j = j'
    · subst e; exact hl
    · exact lt_trans hl (hB j j' (by omega) h2)
  refine ⟨fun i' j' h1 h2 h3 => ?_, by have := h.2.1; omega, fun e => ?_, fun hs => ?_⟩
  · by_cases e : i' = i
    · subst e; exact new j' h2 h3
    · exact h.1 i' j' (by omega) h2 h3
  · have := h.2.1; omega
  · exfalso
    obtain ⟨j', h1, h2⟩ := hs i (by omega)
    by_cases e : j' < j
    · have := k.1 j' i e (Nat.le_refl _) hA
      rw [h2] at this; exact lt_irr _ this
    · have := new j' (by omega) h1
      rw [h2] at this; exact lt_irr _ this
theorem mh_b (h : Mh A B m i j c) : Mh A B m i (j + 1) c := ⟨fun i' j' h1 h2 h3 => h.1 i' j' h1 (by omega) h3, h.2⟩
theorem mh_eq (hB : Asc B m) (h : Mh A B m i j c) (he : A i = B j) (hj : j < m) : Mh A B m (i + 1) (j + 1) (c + 1) := by
  refine ⟨fun i' j' h1 h2 h3 => ?_, by have := h.2.1; omega, fun e => ?_, fun hs => ?_⟩
  · by_cases e : i' = i
    · subst e; rw [he]; exact hB j j' (by omega) h3
    · exact h.1 i' j' (by omega) (by omega) h3
  · intro i' hi'
    by_cases e' : i' = i
    · subst e'; exact ⟨j, hj, he.symm⟩
    · exact h.2.2.1 (by omega) i' (by omega)
  · have := h.2.2.2 (fun i' hi' => hs i' (by omega)); omega
/-- where one list is at its end -/
theorem mh_end (h : Mh A B m i j c) (k : Mh B A n j i c) (hi : i ≤ n) (hj : j ≤ m) (hend : i = n ∨ j = m) : c ≤ n ∧ (c = n ↔ Sub A n B m) := by
  refine ⟨by have := h.2.1; omega, ?_⟩
  by_cases e : i = n
  · subst e; exact h.2.2
  · have hjm : j = m := by omega
    subst hjm
    constructor
    · intro hc; have := h.2.1; omega
    · intro hs
      exfalso
      obtain ⟨j', h1, h2⟩ := hs i (by omega)
      have := k.1 j' i h1 (Nat.le_refl _) (by omega)
      rw [h2] at this; exact lt_irr _ this
end

/-- the binary search's end -/
theorem bs_end {A : Nat → List UInt8} {n lo : Nat} {x : List UInt8} (hA : Asc A n) (h1 : ∀ i, i < lo → lt (A i) x) (h2 : ∀ i, lo ≤ i → i < n → ¬ lt (A i) x) : (lo < n ∧ A lo = x) ↔ ∃ i, i < n ∧ A i = x := by
  constructor
  · rintro ⟨h, e⟩; exact ⟨lo, h, e⟩
  · rintro ⟨i, hi, e⟩
    by_cases g : i < lo
    · have := h1 i g; rw [e] at this; exact absurd this (lt_irr _)
    · by_cases g2 : i = lo
      · subst g2; exact ⟨hi, e⟩
      · have := hA lo i (by omega) hi
        rw [e] at this
        exact absurd this (h2 lo (Nat.le_refl _) (by omega))
end Go.Sg
