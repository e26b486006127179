import Derived.Test.Qxb6603720aLq
set_option linter.unusedVariables false
set_option linter.unusedSimpArgs false
namespace Go.Gr
theorem re_lt {E : Nat → Nat → Prop} {n s v : Nat} (hE : ∀ u v, E u v → u < n ∧ v < n) (hs : s < n) (h : Re E s v) : v < n :=
  h (fun z => z < n) hs (fun a b _ _ _ hab => (hE a b hab).2)
theorem enum_le {A : Nat → Prop} {g : List Nat} {n : Nat} (h : Enum A g) (hA : ∀ v, A v → v < n) : g.length ≤ n := by
  refine pigeon (fun i => g.getD i 0) (fun i hi => ?_) (fun i j hij hj => ?_)
  · have e : g.getD i 0 = g[i] := by rw [List.getD_eq_getElem?_getD, List.getElem?_eq_getElem hi]; rfl
    show g.getD i 0 < n
    rw [e]
    exact hA _ ((h.mem _).1 (List.getElem_mem hi))
  · have e : g.getD i 0 = g[i] := by rw [List.getD_eq_getElem?_getD, List.getElem?_eq_getElem (by omega)]; rfl
    have e' : g.getD j 0 = g[j] := by rw [List.getD_eq_getElem?_getD, List.getElem?_eq_getElem hj]; rfl
    show g.getD i 0 ≠ g.getD j 0
    rw [e, e']
    have := List.pairwise_iff_getElem.1 h.sorted i j (by omega) hj hij
    omega
theorem best_le {E : Nat → Nat → Prop} {n : Nat} (hE : ∀ u v, E u v → u < n ∧ v < n) : ∀ (s : Nat) (l : List Nat), s ≤ n → Best E s l → l.length ≤ n
  | 0, l, _, h => by rw [show l = [] from h]; simp
  | s + 1, l, hs, ⟨l0, h0, h⟩ => by
    have ih := best_le hE s l0 (by omega) h0
    rcases h with ⟨_, rfl⟩ | ⟨_, g, hg, ⟨_, rfl⟩ | ⟨_, rfl⟩⟩
    · exact ih
    · exact enum_le hg (fun v hv => re_lt hE (by omega) hv.1)
    · exact ih
end Go.Gr
