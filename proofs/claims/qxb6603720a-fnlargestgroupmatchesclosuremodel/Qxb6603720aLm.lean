import Derived.Test.Qxb6603720aLq
set_option linter.unusedVariables false
set_option linter.unusedSimpArgs false
namespace Go.Gr

/-- the model's search from s: its marks, its stack; the tags of 'bz' are being worked off -/
structure MS (E : Nat → Nat → Prop) (n s ns : Nat) (st : Nat → Nat) (mk : Nat → Int) (bz : Nat → Prop) : Prop where
  start : mk s = (s : Int) + 1
  sound : ∀ v, v < n → mk v = (s : Int) + 1 → Re E s v
  stk : ∀ i, i < ns → st i < n ∧ mk (st i) = (s : Int) + 1
  inj : ∀ i j, i < j → j < ns → st i ≠ st j
  done : ∀ v, v < n → mk v = (s : Int) + 1 → (∃ i, i < ns ∧ st i = v) ∨ bz v ∨ ∀ h, E v h → mk h = (s : Int) + 1
  top : ∀ v, v < n → mk v ≤ (s : Int) + 1

section
variable {E : Nat → Nat → Prop} {n s ns : Nat} {st : Nat → Nat} {mk : Nat → Int} {bz : Nat → Prop}
theorem ms_start (hs : s < n) (hmk : ∀ v, v < n → mk v ≤ s) : MS E n s 1 (fun _ => s) (fset mk s ((s : Int) + 1)) (fun _ => False) := by
  refine ⟨fset_at _ _ _, fun v hv h => ?_, fun i hi => ⟨hs, fset_at _ _ _⟩, fun i j h1 h2 => by omega, fun v hv h => ?_, fun v hv => ?_⟩
  · by_cases e : v = s
    · subst e; exact Rch.refl
    · rw [fset_ne _ _ e] at h; have := hmk v hv; omega
  · by_cases e : v = s
    · exact Or.inl ⟨0, by omega, e.symm⟩
    · rw [fset_ne _ _ e] at h; have := hmk v hv; omega
  · by_cases e : v = s
    · subst e; rw [fset_at]; omega
    · rw [fset_ne _ _ e]; have := hmk v hv; omega
theorem ms_pop (h : MS E n s (ns + 1) st mk (fun _ => False)) : MS E n s ns st mk (fun v => v = st ns) :=
  ⟨h.start, h.sound, fun i hi => h.stk i (by omega), fun i j h1 h2 => h.inj i j h1 (by omega), fun v hv hm => by
    rcases h.done v hv hm with ⟨i, h1, h2⟩ | g | g
    · by_cases e : i = ns
      · subst e; exact Or.inr (Or.inl h2.symm)
      · exact Or.inl ⟨i, by omega, h2⟩
    · exact g.elim
    · exact Or.inr (Or.inr g), h.top⟩
theorem ms_push (h : MS E n s ns st mk bz) {u v : Nat} (hu : mk u = (s : Int) + 1) (hun : u < n) (hv : v < n) (he : E u v) (hne : mk v ≠ (s : Int) + 1) : MS E n s (ns + 1) (fset st ns v) (fset mk v ((s : Int) + 1)) bz := by
  have keep : ∀ x, mk x = (s : Int) + 1 → fset mk v ((s : Int) + 1) x = (s : Int) + 1 := fun x hx => by
    by_cases e : x = v
    · rw [e, fset_at]
    · rw [fset_ne _ _ e]; exact hx
  refine ⟨keep s h.start, fun x hx hm => ?_, fun i hi => ?_, fun i j h1 h2 => ?_, fun x hx hm => ?_, fun x hx => ?_⟩
  · by_cases e : x = v
    · subst e; exact (h.sound u hun hu).step trivial trivial he
    · rw [fset_ne _ _ e] at hm; exact h.sound x hx hm
  · by_cases e : i = ns
    · rw [e, fset_at]; exact ⟨hv, fset_at _ _ _⟩
    · rw [fset_ne _ _ e]; have := h.stk i (by omega); exact ⟨this.1, keep _ this.2⟩
  · rw [fset_ne _ _ (show i ≠ ns by omega)]
    by_cases e : j = ns
    · rw [e, fset_at]; intro g; exact hne (by rw [← g]; exact (h.stk i (by omega)).2)
    · rw [fset_ne _ _ e]; exact h.inj i j h1 (by omega)
  · by_cases e : x = v
    · exact Or.inl ⟨ns, by omega, by rw [fset_at, e]⟩
    · rw [fset_ne _ _ e] at hm
      rcases h.done x hx hm with ⟨i, h1, h2⟩ | g | g
      · exact Or.inl ⟨i, by omega, by rw [fset_ne _ _ (by omega)]; exact h2⟩
      · exact Or.inr (Or.inl g)
      · exact Or.inr (Or.inr (fun y hy => keep y (g y hy)))
  · by_cases e : x = v
    · rw [e, fset_at]; omega
    · rw [fset_ne _ _ e]; exact h.top x hx
theorem ms_worked {u : Nat} (h : MS E n s ns st mk (fun v => v = u)) (hu : ∀ y, E u y → mk y = (s : Int) + 1) : MS E n s ns st mk (fun _ => False) :=
  ⟨h.start, h.sound, h.stk, h.inj, fun v hv hm => by
    rcases h.done v hv hm with g | g | g
    · exact Or.inl g
    · subst g; exact Or.inr (Or.inr hu)
    · exact Or.inr (Or.inr g), h.top⟩
theorem ms_end (h : MS E n s 0 st mk (fun _ => False)) (hs : s < n) (hE : ∀ u v, E u v → u < n ∧ v < n) (v : Nat) (hv : v < n) : mk v = (s : Int) + 1 ↔ Re E s v := by
  constructor
  · exact h.sound v hv
  · intro hr
    have := hr (fun z => z < n ∧ mk z = (s : Int) + 1) ⟨hs, h.start⟩ (fun a b ha _ _ hab => by
      refine ⟨(hE a b hab).2, ?_⟩
      rcases h.done a ha.1 ha.2 with ⟨i, h1, _⟩ | g | g
      · omega
      · exact g.elim
      · exact g b hab)
    exact this.2
theorem ms_le (h : MS E n s ns st mk bz) : ns ≤ n := pigeon st (fun i hi => (h.stk i hi).1) h.inj
end
end Go.Gr
