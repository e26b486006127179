import Derived.Test.Qxb6603720aTj
set_option linter.unusedVariables false
set_option linter.unusedSimpArgs false
namespace Go.Gr
section
variable {n : Nat} {L : Nat → Nat} {e : Nat → Nat → Nat} {s : TS}

def popS (L : Nat → Nat) (s : TS) : TS := { s with nk := s.nk - 1, Y := fset s.Y (s.kt (s.nk - 1)) (L (s.kt (s.nk - 1)) + 1) }

theorem inv_pop (h : Inv n L e s) (hk : 0 < s.nk) (hx : s.kx (s.nk - 1) = L (s.kt (s.nk - 1))) (hlt : s.low (s.kt (s.nk - 1)) < s.met (s.kt (s.nk - 1))) (hp : 2 ≤ s.nk → s.low (s.kt (s.nk - 2)) ≤ s.low (s.kt (s.nk - 1))) : Inv n L e (popS L s) := by
  have hY := (h.kY (s.nk - 1) (by omega)).1
  rw [hx] at hY
  generalize ht : s.kt (s.nk - 1) = t at *
  have Yt : fset s.Y t (L t + 1) t = L t + 1 := fset_at _ _ _
  have Yn : ∀ v, v ≠ t → fset s.Y t (L t + 1) v = s.Y v := fun v hv => fset_ne _ _ hv
  have hpop : popS L s = { s with nk := s.nk - 1, Y := fset s.Y t (L t + 1) } := by simp only [popS, ht]
  have hot : s.op t = true := by rw [← ht]; exact h.ko _ (by omega)
  have hkn : ∀ j, j < s.nk - 1 → s.kt j ≠ t := fun j hj hh => by
    have := h.ks j (s.nk - 1) (by omega) (by omega)
    rw [ht, hh] at this; omega
  rw [hpop]
  constructor
  · exact h.ord
  · exact h.mle
  · exact h.minj
  · exact h.mlt
  · exact h.opm
  · exact h.ops
  · exact h.sts
  · intro j hj; exact h.ko j (by simp only at hj; omega)
  · intro i j hi hj; exact h.ks i j hi (by simp only at hj; omega)
  · intro j hj
    simp only at hj ⊢
    rw [Yn _ (hkn j hj)]; exact h.kY j (by omega)
  · intro v h1 h2
    simp only at h1 h2 ⊢
    by_cases hv : v = t
    · rw [hv, Yt]
    · rw [Yn v hv]
      refine h.bY v h1 (fun j hj => ?_)
      by_cases hj' : j = s.nk - 1
      · rw [hj', ht]; exact fun hh => hv hh.symm
      · exact h2 j (by omega)
  · intro v h1
    simp only at h1 ⊢
    rw [Yn v (fun hh => by rw [hh] at h1; exact h.opm _ hot h1)]; exact h.wY v h1
  · intro v i h1 h2 h3
    simp only at h1 h2 h3 ⊢
    by_cases hv : v = t
    · exact h.seen v i h1 (by rw [hv, hY]; rw [hv] at h3; exact h3) h3
    · rw [Yn v hv] at h2; exact h.seen v i h1 h2 h3
  · intro j hj; exact h.pe j (by simp only at hj; omega)
  · exact h.cc
  · exact h.cd
  · exact h.cu
  · exact h.cp
  · exact h.ce
  · exact h.cr
  · intro j v hj; exact h.ra j v (by simp only at hj; omega)
  · intro v h1 h2
    simp only at h1 h2 ⊢
    by_cases hv : v = t
    · obtain ⟨_, w, w1, w2, w3⟩ := h.rw' (s.nk - 1) (by omega)
      rw [ht] at w2 w3
      exact ⟨w, w1, by rw [hv]; omega, by rw [hv]; exact w3⟩
    · refine h.rb v h1 (fun j hj => ?_)
      by_cases hj' : j = s.nk - 1
      · rw [hj', ht]; exact fun hh => hv hh.symm
      · exact h2 j (by omega)
  · intro j hj; exact h.rw' j (by simp only at hj; omega)
  · intro j v i hj h1 h2 h3 h4 h5 h6
    simp only at hj h1 h2 h3 h4 h5 h6 ⊢
    have h4' : i < s.Y v := by
      by_cases hv : v = t
      · rw [hv, hY]; rw [hv] at h5; exact h5
      · rw [Yn v hv] at h4; exact h4
    by_cases hj' : j + 1 < s.nk - 1
    · exact h.rl j v i (by omega) h1 h2 (fun _ => h3 hj') h4' h5 h6
    · have ej : j = s.nk - 2 := by omega
      have ej1 : j + 1 = s.nk - 1 := by omega
      rcases Nat.lt_or_ge (s.met v) (s.met t) with g | g
      · exact h.rl j v i (by omega) h1 h2 (fun _ => by rw [ej1, ht]; exact g) h4' h5 h6
      · have := h.rl (s.nk - 1) v i (by omega) h1 (by rw [ht]; exact g) (fun g' => absurd g' (by omega)) h4' h5 h6
        rw [ht] at this
        have := hp (by omega)
        rw [ej]; omega

def closeS (L : Nat → Nat) (s : TS) (i0 : Nat) (op' : Nat → Bool) : TS := { s with op := op', ns := i0, nk := s.nk - 1, Y := fset s.Y (s.kt (s.nk - 1)) (L (s.kt (s.nk - 1)) + 1), nc := s.nc + 1, cl := fset s.cl s.nc (s.ns - i0), cv := fset s.cv s.nc (fun q => s.st (i0 + q)) }

theorem inv_sinj (h : Inv n L e s) {i j : Nat} (hi : i < s.ns) (hj : j < s.ns) (hh : s.st i = s.st j) : i = j := by
  rcases Nat.lt_trichotomy i j with h1 | h1 | h1
  · have := h.sts i j h1 hj; rw [hh] at this; omega
  · exact h1
  · have := h.sts j i h1 hi; rw [hh] at this; omega

set_option maxHeartbeats 1000000 in
theorem inv_close (h : Inv n L e s) (hk : 0 < s.nk) (hx : s.kx (s.nk - 1) = L (s.kt (s.nk - 1))) (heq : s.low (s.kt (s.nk - 1)) = s.met (s.kt (s.nk - 1))) {i0 : Nat} (hi0 : i0 < s.ns) (hst : s.st i0 = s.kt (s.nk - 1)) {op' : Nat → Bool}
    (hop : ∀ v, op' v = true ↔ s.op v = true ∧ s.met v < s.met (s.kt (s.nk - 1))) : Inv n L e (closeS L s i0 op') := by
  have hY := (h.kY (s.nk - 1) (by omega)).1
  rw [hx] at hY
  have hrl := fun v i => h.rl (s.nk - 1) v i (by omega)
  have hra := fun v => h.ra (s.nk - 1) v (by omega)
  have hkt := fun j hj => h.ks j (s.nk - 1) hj (by omega)
  have hot : s.op (s.kt (s.nk - 1)) = true := h.ko _ (by omega)
  have hcs : closeS L s i0 op' = { s with op := op', ns := i0, nk := s.nk - 1, Y := fset s.Y (s.kt (s.nk - 1)) (L (s.kt (s.nk - 1)) + 1), nc := s.nc + 1, cl := fset s.cl s.nc (s.ns - i0), cv := fset s.cv s.nc (fun q => s.st (i0 + q)) } := rfl
  rw [hcs]
  clear hcs
  have gray : ∀ j, j < s.nk → s.kt j = s.kt (s.nk - 1) ∨ s.met (s.kt j) < s.met (s.kt (s.nk - 1)) := fun j hj => by
    by_cases hj' : j = s.nk - 1
    · left; rw [hj']
    · right; exact h.ks j (s.nk - 1) (by omega) (by omega)
  generalize ht : s.kt (s.nk - 1) = t at *
  have Yt : fset s.Y t (L t + 1) t = L t + 1 := fset_at _ _ _
  have Yn : ∀ v, v ≠ t → fset s.Y t (L t + 1) v = s.Y v := fun v hv => fset_ne _ _ hv
  have hkn : ∀ j, j < s.nk - 1 → s.kt j ≠ t := fun j hj hh => by
    have := hkt j hj
    rw [hh] at this; omega
  -- the newly closed
  have hD1 : ∀ v, s.op v = true → s.met t ≤ s.met v → ∃ q, q < s.ns - i0 ∧ s.st (i0 + q) = v := fun v hv hle => by
    obtain ⟨i, hi, hsi⟩ := (h.ops v).1 hv
    rcases Nat.lt_or_ge i i0 with g | g
    · have := h.sts i i0 g hi0; rw [hst, hsi] at this; omega
    · exact ⟨i - i0, by omega, by rw [show i0 + (i - i0) = i by omega]; exact hsi⟩
  have hD2 : ∀ q, q < s.ns - i0 → s.op (s.st (i0 + q)) = true ∧ s.met t ≤ s.met (s.st (i0 + q)) := fun q hq => by
    refine ⟨(h.ops _).2 ⟨i0 + q, by omega, rfl⟩, ?_⟩
    by_cases hq0 : q = 0
    · rw [hq0, Nat.add_zero, hst]; exact Nat.le_refl _
    · have := h.sts i0 (i0 + q) (by omega) (by omega); rw [hst] at this; omega
  have hfull : ∀ a i, s.op a = true → s.met t ≤ s.met a → i < L a → i < s.Y a := fun a i ha hle hi => by
    by_cases hg : ∃ j, j < s.nk ∧ s.kt j = a
    · obtain ⟨j, hj, hja⟩ := hg
      rcases gray j hj with g | g
      · rw [← hja, g, hY]; rw [← hja, g] at hi; exact hi
      · rw [hja] at g; omega
    · have := h.bY a (h.opm a ha) (fun j hj hh => hg ⟨j, hj, hh⟩)
      omega
  have trap : ∀ a i, s.op a = true → s.met t ≤ s.met a → i < L a → (s.op (e a i) = true ∧ s.met t ≤ s.met (e a i)) ∨ (s.met (e a i) ≠ 0 ∧ s.op (e a i) = false) := fun a i ha hle hi => by
    have hs := h.seen a i (h.opm a ha) (hfull a i ha hle hi) hi
    cases ho : s.op (e a i)
    · right; exact ⟨hs, rfl⟩
    · left
      refine ⟨rfl, ?_⟩
      have := hrl a i ha hle (fun g => absurd g (by omega)) (hfull a i ha hle hi) hi ho
      omega
  have trapE : ∀ a b, (s.op a = true ∧ s.met t ≤ s.met a) → s.op a = true → s.op b = true → Ed L e a b → (s.op b = true ∧ s.met t ≤ s.met b) := fun a b hd ha hb hE => by
    obtain ⟨i, hi, rfl⟩ := hE
    rcases trap a i hd.1 hd.2 hi with g | g
    · exact g
    · rw [hb] at g; exact absurd g.2 (by simp)
  have back : ∀ k v, s.met v ≤ k → s.op v = true → s.met t ≤ s.met v → Rch (Ed L e) (fun w => s.op w = true ∧ s.met t ≤ s.met w) v t := by
    intro k
    induction k with
    | zero => intro v hv ho _; exact absurd (by omega) (h.opm v ho)
    | succ k ih =>
      intro v hv ho hle
      by_cases hvt : v = t
      · rw [hvt]; exact .refl
      · obtain ⟨w, w1, w2, w3⟩ := h.rb v ho (fun j hj hh => by
          rcases gray j hj with g | g
          · exact hvt (by rw [← hh, g])
          · rw [hh] at g; omega)
        obtain ⟨d1, d2⟩ := w3.inside (B := fun w => s.op w = true ∧ s.met t ≤ s.met w) ⟨ho, hle⟩ trapE
        exact (d2.mono (fun v hv => hv.2)).trans (ih w (by omega) d1.1 d1.2)
  have nD : ∀ v, s.op v = true → s.met v < s.met t → ¬ (s.op v = true ∧ s.met t ≤ s.met v) := fun v _ h1 h2 => by omega
  have avoid : ∀ (A : Nat → Prop) x y, (∀ w, A w → s.op w = true) → Rch (Ed L e) A x y → s.met x < s.met t → s.met y < s.met t → Rch (Ed L e) (fun w => A w ∧ op' w = true) x y := fun A x y hA hr hx1 hy1 => by
    refine (hr.avoid (D := fun v => s.op v = true ∧ s.met t ≤ s.met v) (fun a b hd ha hb hE => trapE a b hd (hA a ha) (hA b hb) hE) (fun hh => by omega) (fun hh => by omega)).mono (fun w hw => ⟨hw.1, (hop w).2 ⟨hA w hw.1, ?_⟩⟩)
    have := hw.2
    have h1 := hA w hw.1
    rcases Nat.lt_or_ge (s.met w) (s.met t) with g | g
    · exact g
    · exact absurd ⟨h1, g⟩ this
  have C1 : ∀ c, c < s.nc → fset s.cl s.nc (s.ns - i0) c = s.cl c := fun c hc => fset_ne _ _ (by omega)
  have C2 : ∀ c, c < s.nc → fset s.cv s.nc (fun q => s.st (i0 + q)) c = s.cv c := fun c hc => fset_ne _ _ (by omega)
  have C1n : fset s.cl s.nc (s.ns - i0) s.nc = s.ns - i0 := fset_at _ _ _
  have C2n : fset s.cv s.nc (fun q => s.st (i0 + q)) s.nc = (fun q => s.st (i0 + q)) := fset_at _ _ _
  constructor
  · exact h.ord
  · exact h.mle
  · exact h.minj
  · exact h.mlt
  · intro v hv; exact h.opm v ((hop v).1 hv).1
  · intro v
    show op' v = true ↔ ∃ i, i < i0 ∧ s.st i = v
    rw [hop, h.ops]
    constructor
    · rintro ⟨⟨i, h1, h2⟩, h3⟩
      refine ⟨i, ?_, h2⟩
      rcases Nat.lt_or_ge i i0 with g | g
      · exact g
      · have := (hD2 (i - i0) (by omega)).2
        rw [show i0 + (i - i0) = i by omega, h2] at this; omega
    · rintro ⟨i, h1, h2⟩
      refine ⟨⟨i, by omega, h2⟩, ?_⟩
      have := h.sts i i0 h1 hi0; rw [hst, h2] at this; exact this
  · intro i j h1 h2; exact h.sts i j h1 (by simp only at h2; omega)
  · intro j hj
    simp only at hj ⊢
    exact (hop _).2 ⟨h.ko j (by omega), hkt j hj⟩
  · intro i j hi hj; exact h.ks i j hi (by simp only at hj; omega)
  · intro j hj
    simp only at hj ⊢
    rw [Yn _ (hkn j hj)]; exact h.kY j (by omega)
  · intro v h1 h2
    simp only at h1 h2 ⊢
    by_cases hv : v = t
    · rw [hv, Yt]
    · rw [Yn v hv]
      refine h.bY v h1 (fun j hj => ?_)
      by_cases hj' : j = s.nk - 1
      · rw [hj', ht]; exact fun hh => hv hh.symm
      · exact h2 j (by omega)
  · intro v h1
    simp only at h1 ⊢
    rw [Yn v (fun hh => by rw [hh] at h1; exact h.opm _ hot h1)]; exact h.wY v h1
  · intro v i h1 h2 h3
    simp only at h1 h2 h3 ⊢
    by_cases hv : v = t
    · exact h.seen v i h1 (by rw [hv, hY]; rw [hv] at h3; exact h3) h3
    · rw [Yn v hv] at h2; exact h.seen v i h1 h2 h3
  · intro j hj; exact h.pe j (by simp only at hj; omega)
  · intro v h1 h2
    simp only at h1 h2 ⊢
    cases ho : s.op v
    · obtain ⟨c, i, g1, g2, g3⟩ := h.cc v h1 ho
      exact ⟨c, i, by omega, by rw [C1 c g1]; exact g2, by rw [C2 c g1]; exact g3⟩
    · have : s.met t ≤ s.met v := by
        rcases Nat.lt_or_ge (s.met v) (s.met t) with g | g
        · rw [(hop v).2 ⟨ho, g⟩] at h2; cases h2
        · exact g
      obtain ⟨q, g1, g2⟩ := hD1 v ho this
      exact ⟨s.nc, q, by omega, by rw [C1n]; exact g1, by rw [C2n]; exact g2⟩
  · intro c i h1 h2
    simp only at h1 h2 ⊢
    have nop : ∀ v, ¬ (s.op v = true ∧ s.met v < s.met t) → op' v = false := fun v hv => by
      cases ho : op' v
      · rfl
      · exact absurd ((hop v).1 ho) hv
    by_cases hc : c = s.nc
    · rw [hc, C1n] at h2
      rw [hc, C2n]
      have := hD2 i h2
      exact ⟨h.opm _ this.1, nop _ (fun hh => by have g := hh.2; simp only at g; omega)⟩
    · rw [C1 c (by omega)] at h2
      rw [C2 c (by omega)]
      have := h.cd c i (by omega) h2
      exact ⟨this.1, nop _ (fun hh => by rw [this.2] at hh; simp at hh)⟩
  · intro c i c' i' h1 h2 h3 h4 h5
    simp only at h1 h2 h3 h4 h5 ⊢
    by_cases hc : c = s.nc <;> by_cases hc' : c' = s.nc
    · rw [hc, C1n] at h2
      rw [hc', C1n] at h4
      rw [hc, hc', C2n] at h5
      have := inv_sinj h (i := i0 + i) (j := i0 + i') (by omega) (by omega) h5
      exact ⟨by omega, by omega⟩
    · rw [hc, C1n] at h2
      rw [C1 c' (by omega)] at h4
      rw [hc, C2n, C2 c' (by omega)] at h5
      have g1 := (hD2 i h2).1
      have g2 := (h.cd c' i' (by omega) h4).2
      rw [← h5] at g2
      rw [g1] at g2; cases g2
    · rw [C1 c (by omega)] at h2
      rw [hc', C1n] at h4
      rw [hc', C2n, C2 c (by omega)] at h5
      have g1 := (hD2 i' h4).1
      have g2 := (h.cd c i (by omega) h2).2
      rw [h5] at g2
      rw [g1] at g2; cases g2
    · rw [C1 c (by omega)] at h2
      rw [C1 c' (by omega)] at h4
      rw [C2 c (by omega), C2 c' (by omega)] at h5
      exact h.cu c i c' i' (by omega) h2 (by omega) h4 h5
  · intro c h1
    simp only at h1 ⊢
    by_cases hc : c = s.nc
    · rw [hc, C1n]; omega
    · rw [C1 c (by omega)]; exact h.cp c (by omega)
  · intro c i x h1 h2 h3
    simp only at h1 h2 h3 ⊢
    by_cases hc : c = s.nc
    · rw [hc, C1n] at h2
      rw [hc, C2n] at h3 ⊢
      obtain ⟨g1, g2⟩ := hD2 i h2
      rcases trap _ x g1 g2 h3 with g | g
      · obtain ⟨q, q1, q2⟩ := hD1 _ g.1 g.2
        exact ⟨s.nc, q, Nat.le_refl _, by rw [C1n]; exact q1, by rw [C2n]; exact q2⟩
      · obtain ⟨c', i', q1, q2, q3⟩ := h.cc _ g.1 g.2
        exact ⟨c', i', by omega, by rw [C1 c' q1]; exact q2, by rw [C2 c' q1]; exact q3⟩
    · rw [C1 c (by omega)] at h2
      rw [C2 c (by omega)] at h3 ⊢
      obtain ⟨c', i', q1, q2, q3⟩ := h.ce c i x (by omega) h2 h3
      exact ⟨c', i', q1, by rw [C1 c' (by omega)]; exact q2, by rw [C2 c' (by omega)]; exact q3⟩
  · intro c i h1 h2
    simp only at h1 h2 ⊢
    by_cases hc : c = s.nc
    · subst hc
      rw [C1n] at h2
      rw [C2n]
      obtain ⟨g1, g2⟩ := hD2 i h2
      have e0 : s.st (i0 + 0) = t := by rw [Nat.add_zero, hst]
      have mono : ∀ w, (s.op w = true ∧ s.met t ≤ s.met w) → inC { s with op := op', ns := i0, nk := s.nk - 1, Y := fset s.Y t (L t + 1), nc := s.nc + 1, cl := fset s.cl s.nc (s.ns - i0), cv := fset s.cv s.nc (fun q => s.st (i0 + q)) } s.nc w := fun w hw => by
        obtain ⟨q, q1, q2⟩ := hD1 w hw.1 hw.2
        exact ⟨q, by show q < fset _ _ _ _; rw [C1n]; exact q1, by show fset s.cv _ _ _ q = w; rw [C2n]; exact q2⟩
      simp only [e0]
      exact ⟨(hra _ g1 g2).mono mono, (back _ _ (Nat.le_refl _) g1 g2).mono mono⟩
    · rw [C1 c (by omega)] at h2
      rw [C2 c (by omega)]
      obtain ⟨g1, g2⟩ := h.cr c i (by omega) h2
      have mono : ∀ w, inC s c w → inC { s with op := op', ns := i0, nk := s.nk - 1, Y := fset s.Y t (L t + 1), nc := s.nc + 1, cl := fset s.cl s.nc (s.ns - i0), cv := fset s.cv s.nc (fun q => s.st (i0 + q)) } c w := fun w hw => by
        obtain ⟨q, q1, q2⟩ := hw
        exact ⟨q, by show q < fset _ _ _ _; rw [C1 c (by omega)]; exact q1, by show fset s.cv _ _ _ q = w; rw [C2 c (by omega)]; exact q2⟩
      exact ⟨g1.mono mono, g2.mono mono⟩
  · intro j v hj h1 h2
    simp only at hj h1 h2 ⊢
    have hv := (hop v).1 h1
    refine (avoid _ _ _ (fun w hw => hw.1) (h.ra j v (by omega) hv.1 h2) (hkt j hj) hv.2).mono (fun w hw => ⟨hw.2, hw.1.2⟩)
  · intro v h1 h2
    simp only at h1 h2 ⊢
    have hv := (hop v).1 h1
    obtain ⟨w, w1, w2, w3⟩ := h.rb v hv.1 (fun j hj => by
      by_cases hj' : j = s.nk - 1
      · rw [hj', ht]; intro hh; rw [hh] at hv; omega
      · exact h2 j (by omega))
    exact ⟨w, (hop w).2 ⟨w1, by omega⟩, w2, (avoid _ _ _ (fun _ hw => hw) w3 hv.2 (by omega)).mono (fun w hw => hw.2)⟩
  · intro j hj
    simp only at hj ⊢
    obtain ⟨h2, w, w1, w2, w3⟩ := h.rw' j (by omega)
    have := hkt j hj
    exact ⟨h2, w, (hop w).2 ⟨w1, by omega⟩, w2, (avoid _ _ _ (fun _ hw => hw) w3 (by omega) (by omega)).mono (fun w hw => hw.2)⟩
  · intro j v i hj h1 h2 h3 h4 h5 h6
    simp only at hj h1 h2 h3 h4 h5 h6 ⊢
    have hv := (hop v).1 h1
    have hvt : v ≠ t := fun hh => by rw [hh] at hv; omega
    rw [Yn v hvt] at h4
    refine h.rl j v i (by omega) hv.1 h2 (fun g => ?_) h4 h5 ((hop _).1 h6).1
    by_cases hj' : j + 1 < s.nk - 1
    · exact h3 hj'
    · rw [show j + 1 = s.nk - 1 by omega, ht]; exact hv.2

/-- with no tag being walked, nothing is open -/
theorem inv_idle (h : Inv n L e s) (hk : s.nk = 0) : ∀ k v, s.met v ≤ k → s.op v = false := by
  intro k
  induction k with
  | zero => intro v hv; cases ho : s.op v; rfl; exact absurd (by omega) (h.opm v ho)
  | succ k ih =>
    intro v hv
    cases ho : s.op v
    · rfl
    · obtain ⟨w, w1, w2, _⟩ := h.rb v ho (fun j hj => absurd hj (by omega))
      rw [ih w (by omega)] at w1; cases w1

theorem pigeon {a b : Nat} (f : Nat → Nat) (hf : ∀ i, i < a → f i < b) (hi : ∀ i j, i < j → j < a → f i ≠ f j) : a ≤ b := by
  have key : ∀ a, (∀ i j, i < j → j < a → f i ≠ f j) → ((List.range a).map (fun i => (f i : Int))).Nodup := by
    intro a
    induction a with
    | zero => intro _; simp
    | succ a ih =>
      intro hi
      rw [List.range_succ, List.map_append, List.nodup_append]
      refine ⟨ih (fun i j h1 h2 => hi i j h1 (by omega)), by simp, ?_⟩
      intro x hx y hy
      simp at hx hy
      obtain ⟨i, h1, rfl⟩ := hx
      subst hy
      have := hi i a h1 (by omega)
      omega
  have := nodup_le _ ((List.range b).map (fun i : Nat => (i : Int))) (key a hi) (fun x hx => by
    simp at hx ⊢
    obtain ⟨i, h1, rfl⟩ := hx
    exact ⟨f i, hf i h1, rfl⟩)
  simpa using this

theorem inv_ns (h : Inv n L e s) : s.ns ≤ n :=
  pigeon s.st (fun i hi => h.mlt _ (h.opm _ ((h.ops _).2 ⟨i, hi, rfl⟩))) (fun i j h1 h2 hh => by have := h.sts i j h1 h2; rw [hh] at this; omega)
theorem inv_nk (h : Inv n L e s) : s.nk ≤ n :=
  pigeon s.kt (fun i hi => h.mlt _ (h.opm _ (h.ko i hi))) (fun i j h1 h2 hh => by have := h.ks i j h1 h2; rw [hh] at this; omega)
theorem inv_nc (h : Inv n L e s) : s.nc ≤ n :=
  pigeon (fun c => s.cv c 0) (fun i hi => h.mlt _ (h.cd i 0 hi (h.cp i hi)).1) (fun i j h1 h2 hh => by have := (h.cu i 0 j 0 (by omega) (h.cp i (by omega)) h2 (h.cp j h2) hh).1; omega)
theorem inv_cl (h : Inv n L e s) {c : Nat} (hc : c < s.nc) : s.cl c ≤ n :=
  pigeon (s.cv c) (fun i hi => h.mlt _ (h.cd c i hc hi).1) (fun i j h1 h2 hh => by have := (h.cu c i c j hc (by omega) hc h2 hh).2; omega)
theorem inv_cnt (h : Inv n L e s) : s.cnt ≤ n := by
  have hch : ∃ f : Nat → Nat, ∀ c, c < s.cnt → f c < n ∧ s.met (f c) = c + 1 := by
    refine ⟨fun c => if hc : c < s.cnt then Classical.choose (h.ord c hc) else 0, fun c hc => ?_⟩
    have := Classical.choose_spec (h.ord c hc)
    simp only [hc, dif_pos]; exact this
  obtain ⟨f, hf⟩ := hch
  exact pigeon f (fun i hi => (hf i hi).1) (fun i j h1 h2 hh => by
    have a := (hf i (by omega)).2
    have b := (hf j h2).2
    rw [hh] at a; omega)

def initS : TS := { cnt := 0, met := fun _ => 0, low := fun _ => 0, op := fun _ => false, ns := 0, st := fun _ => 0, nk := 0, kt := fun _ => 0, kx := fun _ => 0, nc := 0, cl := fun _ => 0, cv := fun _ _ => 0, Y := fun _ => 0 }
theorem inv_init : Inv n L e initS := by
  constructor <;> simp [initS]

/-- the measure -/
def sumN (f : Nat → Nat) : Nat → Nat
  | 0 => 0
  | k + 1 => sumN f k + f k
theorem sumN_congr {f g : Nat → Nat} : ∀ k, (∀ i, i < k → f i = g i) → sumN f k = sumN g k
  | 0, _ => rfl
  | k + 1, h => by simp only [sumN]; rw [sumN_congr k (fun i hi => h i (by omega)), h k (by omega)]
theorem sumN_lt {f g : Nat → Nat} {a : Nat} : ∀ k, a < k → (∀ i, i < k → i ≠ a → f i = g i) → f a < g a → sumN f k < sumN g k
  | 0, h, _, _ => absurd h (by omega)
  | k + 1, h, hs, hl => by
    simp only [sumN]
    by_cases ha : a = k
    · subst ha
      rw [sumN_congr a (fun i hi => hs i (by omega) (by omega))]; omega
    · have := sumN_lt k (by omega) (fun i hi => hs i (by omega)) hl
      rw [hs k (by omega) (fun hh => ha hh.symm)]; omega
end
end Go.Gr
