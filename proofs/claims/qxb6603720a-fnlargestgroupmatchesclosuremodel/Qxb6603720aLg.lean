import Derived.Test.Qxb6603720aTk
set_option linter.unusedVariables false
set_option linter.unusedSimpArgs false
namespace Go.Gr

def Re (E : Nat → Nat → Prop) (x y : Nat) : Prop := Rch E (fun _ => True) x y
def Sn (E : Nat → Nat → Prop) (s v : Nat) : Prop := ∃ s', s' < s ∧ Re E s' v
def Gp (E : Nat → Nat → Prop) (s v : Nat) : Prop := Re E s v ∧ ¬ Sn E s v
structure Enum (A : Nat → Prop) (l : List Nat) : Prop where
  sorted : l.Pairwise (· < ·)
  mem : ∀ v, v ∈ l ↔ A v

theorem enum_eq : ∀ (l l' : List Nat), l.Pairwise (· < ·) → l'.Pairwise (· < ·) → (∀ v, v ∈ l ↔ v ∈ l') → l = l'
  | [], [], _, _, _ => rfl
  | [], b :: l', _, _, h => by have := (h b).2 (by simp); simp at this
  | a :: l, [], _, _, h => by have := (h a).1 (by simp); simp at this
  | a :: l, b :: l', h1, h2, h => by
    obtain ⟨p1, p2⟩ := List.pairwise_cons.1 h1
    obtain ⟨q1, q2⟩ := List.pairwise_cons.1 h2
    have e : a = b := by
      rcases List.mem_cons.1 ((h a).1 (by simp)) with g | g
      · exact g
      · rcases List.mem_cons.1 ((h b).2 (by simp)) with g' | g'
        · exact g'.symm
        · have := p1 b g'; have := q1 a g; omega
    subst e
    rw [enum_eq l l' p2 q2 (fun v => by
      constructor
      · intro hv
        rcases List.mem_cons.1 ((h v).1 (by simp [hv])) with g | g
        · have := p1 v hv; omega
        · exact g
      · intro hv
        rcases List.mem_cons.1 ((h v).2 (by simp [hv])) with g | g
        · have := q1 v hv; omega
        · exact g)]
theorem enum_uniq {A : Nat → Prop} {l l' : List Nat} (h : Enum A l) (h' : Enum A l') : l = l' :=
  enum_eq l l' h.sorted h'.sorted (fun v => (h.mem v).trans (h'.mem v).symm)

def Best (E : Nat → Nat → Prop) : Nat → List Nat → Prop
  | 0, l => l = []
  | s + 1, l => ∃ l0, Best E s l0 ∧ ((Sn E s s ∧ l = l0) ∨ (¬ Sn E s s ∧ ∃ g, Enum (Gp E s) g ∧ ((l0.length < g.length ∧ l = g) ∨ (g.length ≤ l0.length ∧ l = l0))))

section
variable {E : Nat → Nat → Prop}
theorem best_uniq : ∀ (s : Nat) (l l' : List Nat), Best E s l → Best E s l' → l = l'
  | 0, l, l', h, h' => by rw [show l = [] from h, show l' = [] from h']
  | s + 1, l, l', ⟨l0, h0, h⟩, ⟨l0', h0', h'⟩ => by
    have e := best_uniq s l0 l0' h0 h0'
    subst e
    rcases h with ⟨a, rfl⟩ | ⟨a, g, hg, h⟩ <;> rcases h' with ⟨a', rfl⟩ | ⟨a', g', hg', h'⟩
    · rfl
    · exact absurd a a'
    · exact absurd a' a
    · have e := enum_uniq hg hg'
      subst e
      rcases h with ⟨b, rfl⟩ | ⟨b, rfl⟩ <;> rcases h' with ⟨b', rfl⟩ | ⟨b', rfl⟩
      · rfl
      · omega
      · omega
      · rfl
theorem best_len : ∀ (s : Nat) (l : List Nat), 0 < s → Best E s l → 0 < l.length
  | 0, _, h, _ => absurd h (by omega)
  | s + 1, l, _, ⟨l0, h0, h⟩ => by
    rcases h with ⟨a, rfl⟩ | ⟨a, g, hg, h⟩
    · by_cases hs : s = 0
      · subst hs; obtain ⟨s', hs', _⟩ := a; omega
      · exact best_len s _ (by omega) h0
    · have hgp : 0 < g.length := by
        have := (hg.mem s).2 ⟨Rch.refl, a⟩
        exact List.length_pos_of_mem this
      rcases h with ⟨b, rfl⟩ | ⟨b, rfl⟩ <;> omega
theorem best_mem : ∀ (s : Nat) (l : List Nat), Best E s l → l.Pairwise (· < ·)
  | 0, l, h => by rw [show l = [] from h]; exact List.Pairwise.nil
  | s + 1, l, ⟨l0, h0, h⟩ => by
    rcases h with ⟨a, rfl⟩ | ⟨a, g, hg, h⟩
    · exact best_mem s _ h0
    · rcases h with ⟨b, rfl⟩ | ⟨b, rfl⟩
      · exact hg.sorted
      · exact best_mem s _ h0

/-- a host that no edge touches -/
theorem best_lone {n : Nat} (hE : ∀ u v, E u v → u < n ∧ v < n) {l l' : List Nat} (h : Best E n l) (h' : Best E (n + 1) l') : (n = 0 ∧ l' = [0]) ∨ (0 < n ∧ l' = l) := by
  obtain ⟨l0, h0, hs⟩ := h'
  have e := best_uniq n l0 l h0 h
  subst e
  have hin : ∀ s, Re E s n → s = n := fun s hr => by
    have := hr (fun z => z = s ∨ z < n) (Or.inl rfl) (fun a b _ _ _ hab => Or.inr (hE a b hab).2)
    rcases this with g | g
    · exact g.symm
    · omega
  have hout : ∀ v, Re E n v → v = n := fun v hr => by
    refine hr (fun z => z = n) rfl (fun a b ha _ _ hab => ?_)
    have := (hE a b hab).1
    omega
  have hns : ¬ Sn E n n := fun ⟨s', h1, h2⟩ => by have := hin s' h2; omega
  have hen : Enum (Gp E n) [n] := ⟨by simp, fun v => by
    constructor
    · intro hv; simp at hv; subst hv; exact ⟨Rch.refl, hns⟩
    · rintro ⟨h1, _⟩; simp [hout v h1]⟩
  rcases hs with ⟨a, _⟩ | ⟨_, g, hg, hs⟩
  · exact absurd a hns
  · have e := enum_uniq hg hen
    subst e
    by_cases hn : n = 0
    · left
      subst hn
      have hl : l0 = [] := h0
      subst hl
      rcases hs with ⟨_, rfl⟩ | ⟨b, _⟩
      · exact ⟨rfl, rfl⟩
      · simp at b
    · right
      have := best_len n _ (by omega) h0
      rcases hs with ⟨b, _⟩ | ⟨_, rfl⟩
      · simp at b; subst b; simp at this
      · exact ⟨by omega, rfl⟩

/-- what the earlier ones reach is closed -/
theorem sn_closed {s a b : Nat} (h : Sn E s a) (e : E a b) : Sn E s b := by
  obtain ⟨s', h1, h2⟩ := h
  exact ⟨s', h1, h2.step trivial trivial e⟩
/-- reached past the earlier ones: every step is past them -/
theorem gp_rch {s v : Nat} (h : Gp E s v) : Rch E (fun w => ¬ Sn E s w) s v := by
  by_cases hs : Sn E s s
  · exfalso
    obtain ⟨s', h1, h2⟩ := hs
    exact h.2 ⟨s', h1, h2.trans h.1⟩
  · exact (h.1.avoid (D := fun w => Sn E s w) (fun a b hd _ _ e => sn_closed hd e) hs h.2).mono (fun w hw => hw.2)
theorem sn_succ {s v : Nat} : Sn E (s + 1) v ↔ Sn E s v ∨ Re E s v := by
  constructor
  · rintro ⟨s', h1, h2⟩
    by_cases e : s' = s
    · subst e; exact Or.inr h2
    · exact Or.inl ⟨s', by omega, h2⟩
  · rintro (⟨s', h1, h2⟩ | h)
    · exact ⟨s', by omega, h2⟩
    · exact ⟨s, by omega, h⟩
end
end Go.Gr
