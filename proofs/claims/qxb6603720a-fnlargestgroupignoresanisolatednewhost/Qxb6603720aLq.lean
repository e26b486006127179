import Derived.Test.Qxb6603720aLg
set_option linter.unusedVariables false
set_option linter.unusedSimpArgs false
namespace Go.Gr

/-- the search from s: what is queued, what is seen -/
structure QS (E : Nat → Nat → Prop) (n s cnt : Nat) (D : Nat → Nat) (se : Nat → Bool) : Prop where
  pos : 0 < cnt
  d0 : D 0 = s
  inj : ∀ i j, i < j → j < cnt → D i ≠ D j
  mem : ∀ i, i < cnt → D i < n ∧ Gp E s (D i)
  seen : ∀ v, v < n → (se v = true ↔ Sn E s v ∨ ∃ i, i < cnt ∧ D i = v)

section
variable {E : Nat → Nat → Prop} {n s cnt : Nat} {D : Nat → Nat} {se : Nat → Bool}
theorem qs_start (hs : s < n) (hse : ∀ v, v < n → (se v = true ↔ Sn E s v)) (hns : se s = false) : QS E n s 1 (fun _ => s) (fset se s true) := by
  have hn : ¬ Sn E s s := fun h => by have := (hse s hs).2 h; rw [hns] at this; cases this
  refine ⟨by omega, rfl, fun i j h1 h2 => by omega, fun i hi => ⟨hs, Rch.refl, hn⟩, fun v hv => ?_⟩
  by_cases e : v = s
  · subst e; rw [fset_at]; exact ⟨fun _ => Or.inr ⟨0, by omega, rfl⟩, fun _ => rfl⟩
  · rw [fset_ne _ _ e, hse v hv]
    constructor
    · exact Or.inl
    · rintro (h | ⟨i, _, h⟩)
      · exact h
      · exact absurd h.symm e
theorem qs_add (h : QS E n s cnt D se) {i u : Nat} (hi : i < cnt) (hu : u < n) (he : E (D i) u) (hns : se u = false) : QS E n s (cnt + 1) (fset D cnt u) (fset se u true) := by
  have hnot : ¬ (Sn E s u ∨ ∃ i, i < cnt ∧ D i = u) := fun g => by have := (h.seen u hu).2 g; rw [hns] at this; cases this
  have hp := h.pos
  refine ⟨by omega, by rw [fset_ne _ _ (by omega)]; exact h.d0, fun a b h1 h2 => ?_, fun a ha => ?_, fun v hv => ?_⟩
  · rw [fset_ne _ _ (show a ≠ cnt by omega)]
    by_cases e : b = cnt
    · rw [e, fset_at]; exact fun g => hnot (Or.inr ⟨a, by omega, g⟩)
    · rw [fset_ne _ _ e]; exact h.inj a b h1 (by omega)
  · by_cases e : a = cnt
    · rw [e, fset_at]; exact ⟨hu, (h.mem i hi).2.1.step trivial trivial he, fun g => hnot (Or.inl g)⟩
    · rw [fset_ne _ _ e]; exact h.mem a (by omega)
  · by_cases e : v = u
    · subst e; rw [fset_at]; simp only [true_iff]; exact Or.inr ⟨cnt, by omega, fset_at _ _ _⟩
    · rw [fset_ne _ _ e, h.seen v hv]
      constructor
      · rintro (g | ⟨a, h1, h2⟩)
        · exact Or.inl g
        · exact Or.inr ⟨a, by omega, by rw [fset_ne _ _ (by omega)]; exact h2⟩
      · rintro (g | ⟨a, h1, h2⟩)
        · exact Or.inl g
        · by_cases ea : a = cnt
          · rw [ea, fset_at] at h2; exact absurd h2.symm e
          · rw [fset_ne _ _ ea] at h2; exact Or.inr ⟨a, by omega, h2⟩
theorem qs_le (h : QS E n s cnt D se) : cnt ≤ n := pigeon D (fun i hi => (h.mem i hi).1) h.inj
def Ql (E : Nat → Nat → Prop) (s cnt : Nat) (D : Nat → Nat) (i : Nat) : Prop := ∀ u, E (D i) u → Sn E s u ∨ ∃ j, j < cnt ∧ D j = u
theorem ql_add {i u : Nat} (h : Ql E s cnt D i) (hi : i < cnt) : Ql E s (cnt + 1) (fset D cnt u) i := fun v hv => by
  rw [fset_ne _ _ (show i ≠ cnt by omega)] at hv
  rcases h v hv with g | ⟨j, h1, h2⟩
  · exact Or.inl g
  · exact Or.inr ⟨j, by omega, by rw [fset_ne _ _ (by omega)]; exact h2⟩
theorem qs_all (h : QS E n s cnt D se) (hcl : ∀ i, i < cnt → Ql E s cnt D i) (v : Nat) : Gp E s v ↔ ∃ i, i < cnt ∧ D i = v := by
  constructor
  · intro hv
    exact gp_rch hv (fun z => ∃ i, i < cnt ∧ D i = z) ⟨0, h.pos, h.d0⟩ (fun a b ⟨i, hi, e⟩ ha hb hE => by
      subst e
      rcases hcl i hi b hE with g | g
      · exact absurd g hb
      · exact g)
  · rintro ⟨i, hi, rfl⟩; exact (h.mem i hi).2
theorem qs_next (h : QS E n s cnt D se) (hcl : ∀ i, i < cnt → Ql E s cnt D i) (v : Nat) (hv : v < n) : se v = true ↔ Sn E (s + 1) v := by
  rw [h.seen v hv, sn_succ, ← qs_all h hcl v]
  constructor
  · rintro (g | g)
    · exact Or.inl g
    · exact Or.inr g.1
  · rintro (g | g)
    · exact Or.inl g
    · by_cases hs : Sn E s v
      · exact Or.inl hs
      · exact Or.inr ⟨g, hs⟩

theorem pw_mono {α : Type} {R S : α → α → Prop} (h : ∀ a b, R a b → S a b) : ∀ {l : List α}, l.Pairwise R → l.Pairwise S
  | [], _ => List.Pairwise.nil
  | a :: l, hp => by
    rw [List.pairwise_cons] at hp ⊢
    exact ⟨fun b hb => h a b (hp.1 b hb), pw_mono h hp.2⟩
/-- the queue, put in order -/
theorem enum_of {A : Nat → Prop} {cnt : Nat} {D : Nat → Nat} (hinj : ∀ i j, i < j → j < cnt → D i ≠ D j) (hA : ∀ v, A v ↔ ∃ i, i < cnt ∧ D i = v) : ∃ g, Enum A g ∧ g.Perm ((List.range cnt).map D) ∧ g.length = cnt := by
  have hp := List.mergeSort_perm ((List.range cnt).map D) (fun a b => decide (a ≤ b))
  refine ⟨((List.range cnt).map D).mergeSort (fun a b => decide (a ≤ b)), ⟨?_, fun v => ?_⟩, hp, by rw [hp.length_eq]; simp⟩
  · have hs : (((List.range cnt).map D).mergeSort (fun a b => decide (a ≤ b))).Pairwise (fun a b => decide (a ≤ b) = true) :=
      List.pairwise_mergeSort (fun a b c h1 h2 => by simp at *; omega) (fun a b => by simp; omega) _
    have hnd : (((List.range cnt).map D).mergeSort (fun a b => decide (a ≤ b))).Nodup := by
      rw [hp.nodup_iff, List.nodup_iff_pairwise_ne, List.pairwise_map]
      refine List.Pairwise.imp_of_mem (fun {a b} ha hb hab => ?_) (List.pairwise_lt_range (n := cnt))
      exact hinj a b hab (by simpa using hb)
    exact pw_mono (fun a b ⟨h1, h2⟩ => by simp at h1; omega) (hs.and hnd)
  · rw [hp.mem_iff, hA]
    simp
end
end Go.Gr
