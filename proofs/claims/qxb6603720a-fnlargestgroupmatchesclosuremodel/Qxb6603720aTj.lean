import Derived.Test.Qxb6603720aGr
set_option linter.unusedVariables false
set_option linter.unusedSimpArgs false
namespace Go.Gr

def Rch (E : Nat → Nat → Prop) (A : Nat → Prop) (x y : Nat) : Prop := ∀ P : Nat → Prop, P x → (∀ a b, P a → A a → A b → E a b → P b) → P y

section
variable {E : Nat → Nat → Prop} {A B D : Nat → Prop} {x y z : Nat}
theorem Rch.refl : Rch E A x x := fun P h _ => h
theorem Rch.step (h : Rch E A x y) (hy : A y) (hz : A z) (e : E y z) : Rch E A x z := fun P h0 hs => hs _ _ (h P h0 hs) hy hz e
theorem Rch.trans (h : Rch E A x y) (h2 : Rch E A y z) : Rch E A x z := fun P h0 hs => h2 P (h P h0 hs) hs
theorem Rch.mono (h : Rch E A x y) (hA : ∀ v, A v → B v) : Rch E B x y := fun P h0 hs => h P h0 (fun a b pa ha hb e => hs a b pa (hA _ ha) (hA _ hb) e)
theorem Rch.inside (h : Rch E A x y) (hx : B x) (hcl : ∀ a b, B a → A a → A b → E a b → B b) : B y ∧ Rch E (fun v => A v ∧ B v) x y :=
  h (fun z => B z ∧ Rch E (fun v => A v ∧ B v) x z) ⟨hx, .refl⟩ (fun a b p ha hA e => ⟨hcl a b p.1 ha hA e, p.2.step ⟨ha, p.1⟩ ⟨hA, hcl a b p.1 ha hA e⟩ e⟩)
theorem Rch.avoid (h : Rch E A x y) (hcl : ∀ a b, D a → A a → A b → E a b → D b) (hx : ¬ D x) (hy : ¬ D y) : Rch E (fun v => A v ∧ ¬ D v) x y := by
  have := h (fun z => D z ∨ (¬ D z ∧ Rch E (fun v => A v ∧ ¬ D v) x z)) (Or.inr ⟨hx, .refl⟩) (fun a b pa ha hb e => by
    rcases pa with d | ⟨hna, hr⟩
    · exact Or.inl (hcl a b d ha hb e)
    · by_cases hd : D b
      · exact Or.inl hd
      · exact Or.inr ⟨hd, hr.step ⟨ha, hna⟩ ⟨hb, hd⟩ e⟩)
  rcases this with d | ⟨_, r⟩
  · exact absurd d hy
  · exact r
end

def fset {α : Type} (f : Nat → α) (a : Nat) (b : α) : Nat → α := fun x => if x = a then b else f x
theorem fset_at {α : Type} (f : Nat → α) (a : Nat) (b : α) : fset f a b a = b := by simp [fset]
theorem fset_ne {α : Type} (f : Nat → α) {a x : Nat} (b : α) (h : x ≠ a) : fset f a b x = f x := by simp [fset, h]

structure TS where
  cnt : Nat
  met : Nat → Nat
  low : Nat → Nat
  op : Nat → Bool
  ns : Nat
  st : Nat → Nat
  nk : Nat
  kt : Nat → Nat
  kx : Nat → Nat
  nc : Nat
  cl : Nat → Nat
  cv : Nat → Nat → Nat
  Y : Nat → Nat

def Ed (L : Nat → Nat) (e : Nat → Nat → Nat) (a b : Nat) : Prop := ∃ i, i < L a ∧ e a i = b
def inC (s : TS) (c v : Nat) : Prop := ∃ i, i < s.cl c ∧ s.cv c i = v

structure Inv (n : Nat) (L : Nat → Nat) (e : Nat → Nat → Nat) (s : TS) : Prop where
  ord : ∀ c, c < s.cnt → ∃ v, v < n ∧ s.met v = c + 1
  mle : ∀ v, s.met v ≤ s.cnt
  minj : ∀ u v, s.met u = s.met v → s.met u ≠ 0 → u = v
  mlt : ∀ v, s.met v ≠ 0 → v < n
  opm : ∀ v, s.op v = true → s.met v ≠ 0
  ops : ∀ v, s.op v = true ↔ ∃ i, i < s.ns ∧ s.st i = v
  sts : ∀ i j, i < j → j < s.ns → s.met (s.st i) < s.met (s.st j)
  ko : ∀ j, j < s.nk → s.op (s.kt j) = true
  ks : ∀ i j, i < j → j < s.nk → s.met (s.kt i) < s.met (s.kt j)
  kY : ∀ j, j < s.nk → s.Y (s.kt j) = s.kx j ∧ s.kx j ≤ L (s.kt j)
  bY : ∀ v, s.met v ≠ 0 → (∀ j, j < s.nk → s.kt j ≠ v) → s.Y v = L v + 1
  wY : ∀ v, s.met v = 0 → s.Y v = 0
  seen : ∀ v i, s.met v ≠ 0 → i < s.Y v → i < L v → s.met (e v i) ≠ 0
  pe : ∀ j, j + 1 < s.nk → Ed L e (s.kt j) (s.kt (j + 1))
  cc : ∀ v, s.met v ≠ 0 → s.op v = false → ∃ c i, c < s.nc ∧ i < s.cl c ∧ s.cv c i = v
  cd : ∀ c i, c < s.nc → i < s.cl c → s.met (s.cv c i) ≠ 0 ∧ s.op (s.cv c i) = false
  cu : ∀ c i c' i', c < s.nc → i < s.cl c → c' < s.nc → i' < s.cl c' → s.cv c i = s.cv c' i' → c = c' ∧ i = i'
  cp : ∀ c, c < s.nc → 0 < s.cl c
  ce : ∀ c i x, c < s.nc → i < s.cl c → x < L (s.cv c i) → ∃ c' i', c' ≤ c ∧ i' < s.cl c' ∧ s.cv c' i' = e (s.cv c i) x
  cr : ∀ c i, c < s.nc → i < s.cl c → Rch (Ed L e) (inC s c) (s.cv c 0) (s.cv c i) ∧ Rch (Ed L e) (inC s c) (s.cv c i) (s.cv c 0)
  ra : ∀ j v, j < s.nk → s.op v = true → s.met (s.kt j) ≤ s.met v → Rch (Ed L e) (fun w => s.op w = true ∧ s.met (s.kt j) ≤ s.met w) (s.kt j) v
  rb : ∀ v, s.op v = true → (∀ j, j < s.nk → s.kt j ≠ v) → ∃ w, s.op w = true ∧ s.met w < s.met v ∧ Rch (Ed L e) (fun w => s.op w = true) v w
  rw' : ∀ j, j < s.nk → s.low (s.kt j) ≤ s.met (s.kt j) ∧ ∃ w, s.op w = true ∧ s.met w = s.low (s.kt j) ∧ Rch (Ed L e) (fun w => s.op w = true) (s.kt j) w
  rl : ∀ j v i, j < s.nk → s.op v = true → s.met (s.kt j) ≤ s.met v → (j + 1 < s.nk → s.met v < s.met (s.kt (j + 1))) → i < s.Y v → i < L v → s.op (e v i) = true → s.low (s.kt j) ≤ s.met (e v i)

section
variable {n : Nat} {L : Nat → Nat} {e : Nat → Nat → Nat} {s : TS}

def visitS (s : TS) (u : Nat) : TS := { s with cnt := s.cnt + 1, met := fset s.met u (s.cnt + 1), low := fset s.low u (s.cnt + 1), op := fset s.op u true, ns := s.ns + 1, st := fset s.st s.ns u, nk := s.nk + 1, kt := fset s.kt s.nk u, kx := fset s.kx s.nk 0 }

theorem inv_visit (h : Inv n L e s) {u : Nat} (hu : u < n) (hm : s.met u = 0) (he : 0 < s.nk → Ed L e (s.kt (s.nk - 1)) u) : Inv n L e (visitS s u) := by
  have hne : ∀ v, s.met v ≠ 0 → v ≠ u := fun v hv hvu => hv (hvu ▸ hm)
  have hop : s.op u = false := by
    cases ho : s.op u
    · rfl
    · exact absurd hm (h.opm u ho)
  have hone : ∀ v, s.op v = true → v ≠ u := fun v hv => hne v (h.opm v hv)
  have hkne : ∀ j, j < s.nk → s.kt j ≠ u := fun j hj => hone _ (h.ko j hj)
  have hsne : ∀ i, i < s.ns → s.st i ≠ u := fun i hi => hone _ ((h.ops _).2 ⟨i, hi, rfl⟩)
  have M : ∀ v, v ≠ u → fset s.met u (s.cnt + 1) v = s.met v := fun v hv => fset_ne _ _ hv
  have Lo : ∀ v, v ≠ u → fset s.low u (s.cnt + 1) v = s.low v := fun v hv => fset_ne _ _ hv
  have O : ∀ v, v ≠ u → fset s.op u true v = s.op v := fun v hv => fset_ne _ _ hv
  have Mu : fset s.met u (s.cnt + 1) u = s.cnt + 1 := fset_at _ _ _
  have Lu : fset s.low u (s.cnt + 1) u = s.cnt + 1 := fset_at _ _ _
  have Ou : fset s.op u true u = true := fset_at _ _ _
  have K : ∀ j, j < s.nk → fset s.kt s.nk u j = s.kt j := fun j hj => fset_ne _ _ (by omega)
  have Ku : fset s.kt s.nk u s.nk = u := fset_at _ _ _
  have Kx : ∀ j, j < s.nk → fset s.kx s.nk 0 j = s.kx j := fun j hj => fset_ne _ _ (by omega)
  have Kxu : fset s.kx s.nk 0 s.nk = 0 := fset_at _ _ _
  have S : ∀ j, j < s.ns → fset s.st s.ns u j = s.st j := fun j hj => fset_ne _ _ (by omega)
  have Su : fset s.st s.ns u s.ns = u := fset_at _ _ _
  have hO : ∀ w, s.op w = true → fset s.op u true w = true := fun w hw => by rw [O w (hone w hw)]; exact hw
  have hY0 : s.Y u = 0 := h.wY u hm
  constructor
  · intro c hc
    simp only [visitS] at hc ⊢
    by_cases h1 : c < s.cnt
    · obtain ⟨v, h2, h3⟩ := h.ord c h1
      exact ⟨v, h2, by rw [M v (hne v (by omega))]; exact h3⟩
    · exact ⟨u, hu, by rw [Mu]; omega⟩
  · intro v
    simp only [visitS]
    by_cases hv : v = u
    · rw [hv, Mu]; omega
    · rw [M v hv]; have := h.mle v; omega
  · intro a b
    simp only [visitS]
    by_cases ha : a = u <;> by_cases hb : b = u
    · intro _ _; rw [ha, hb]
    · rw [ha, Mu, M b hb]; have := h.mle b; omega
    · rw [hb, Mu, M a ha]; have := h.mle a; omega
    · rw [M a ha, M b hb]; exact h.minj a b
  · intro v
    simp only [visitS]
    by_cases hv : v = u
    · rw [hv]; intro _; exact hu
    · rw [M v hv]; exact h.mlt v
  · intro v
    simp only [visitS]
    by_cases hv : v = u
    · rw [hv, Mu]; omega
    · rw [M v hv, O v hv]; exact h.opm v
  · intro v
    simp only [visitS]
    by_cases hv : v = u
    · subst hv; rw [Ou]; exact ⟨fun _ => ⟨s.ns, by omega, Su⟩, fun _ => rfl⟩
    · rw [O v hv, h.ops]
      constructor
      · rintro ⟨i, h1, h2⟩; exact ⟨i, by omega, by rw [S i h1]; exact h2⟩
      · rintro ⟨i, h1, h2⟩
        by_cases hi : i = s.ns
        · rw [hi, Su] at h2; exact absurd h2.symm hv
        · exact ⟨i, by omega, by rw [S i (by omega)] at h2; exact h2⟩
  · intro i j h1 h2
    simp only [visitS] at h2 ⊢
    rw [S i (by omega), M _ (hsne i (by omega))]
    by_cases hj : j = s.ns
    · rw [hj, Su, Mu]; have := h.mle (s.st i); omega
    · rw [S j (by omega), M _ (hsne j (by omega))]; exact h.sts i j h1 (by omega)
  · intro j hj
    simp only [visitS] at hj ⊢
    by_cases h1 : j = s.nk
    · rw [h1, Ku, Ou]
    · rw [K j (by omega)]; exact hO _ (h.ko j (by omega))
  · intro i j h1 h2
    simp only [visitS] at h2 ⊢
    rw [K i (by omega), M _ (hkne i (by omega))]
    by_cases hj : j = s.nk
    · rw [hj, Ku, Mu]; have := h.mle (s.kt i); omega
    · rw [K j (by omega), M _ (hkne j (by omega))]; exact h.ks i j h1 (by omega)
  · intro j hj
    simp only [visitS] at hj ⊢
    by_cases h1 : j = s.nk
    · rw [h1, Ku, Kxu]; exact ⟨hY0, by omega⟩
    · rw [K j (by omega), Kx j (by omega)]; exact h.kY j (by omega)
  · intro v
    simp only [visitS]
    intro h1 h2
    have hv : v ≠ u := fun hh => h2 s.nk (by omega) (by rw [Ku, hh])
    rw [M v hv] at h1
    exact h.bY v h1 (fun j hj => by have := h2 j (by omega); rwa [K j hj] at this)
  · intro v
    simp only [visitS]
    by_cases hv : v = u
    · rw [hv, Mu]; omega
    · rw [M v hv]; exact h.wY v
  · intro v i
    simp only [visitS]
    by_cases hv : v = u
    · rw [hv]; omega
    · rw [M v hv]
      intro h1 h2 h3
      have := h.seen v i h1 h2 h3
      rw [M _ (hne _ this)]; exact this
  · intro j hj
    simp only [visitS] at hj ⊢
    rw [K j (by omega)]
    by_cases h1 : j + 1 = s.nk
    · rw [h1, Ku]
      have := he (by omega)
      rwa [show s.nk - 1 = j by omega] at this
    · rw [K (j + 1) (by omega)]; exact h.pe j (by omega)
  · intro v
    simp only [visitS]
    by_cases hv : v = u
    · rw [hv, Ou]; intro _ hh; cases hh
    · rw [M v hv, O v hv]; exact h.cc v
  · intro c i h1 h2
    have := h.cd c i h1 h2
    simp only [visitS]
    rw [M _ (hne _ this.1), O _ (hne _ this.1)]; exact this
  · exact h.cu
  · exact h.cp
  · exact h.ce
  · exact h.cr
  · intro j v hj
    simp only [visitS] at hj ⊢
    by_cases h1 : j = s.nk
    · rw [h1, Ku, Mu]
      by_cases hv : v = u
      · intro _ _; rw [hv]; exact .refl
      · rw [M v hv]; have := h.mle v; omega
    · rw [K j (by omega), M _ (hkne j (by omega))]
      have mono : ∀ w, (s.op w = true ∧ s.met (s.kt j) ≤ s.met w) → (fset s.op u true w = true ∧ s.met (s.kt j) ≤ fset s.met u (s.cnt + 1) w) := fun w hw => ⟨hO w hw.1, by rw [M w (hone w hw.1)]; exact hw.2⟩
      by_cases hv : v = u
      · intro _ _
        have hle : s.met (s.kt j) ≤ s.met (s.kt (s.nk - 1)) := by
          by_cases hh : j = s.nk - 1
          · rw [hh]; exact Nat.le_refl _
          · exact Nat.le_of_lt (h.ks j (s.nk - 1) (by omega) (by omega))
        have r := h.ra j (s.kt (s.nk - 1)) (by omega) (h.ko _ (by omega)) hle
        rw [hv]
        exact (r.mono mono).step (mono _ ⟨h.ko _ (by omega), hle⟩) ⟨Ou, by rw [Mu]; have := h.mle (s.kt j); omega⟩ (he (by omega))
      · rw [M v hv, O v hv]
        intro h2 h3
        exact (h.ra j v (by omega) h2 h3).mono mono
  · intro v
    simp only [visitS]
    intro h1 h2
    have hv : v ≠ u := fun hh => h2 s.nk (by omega) (by rw [Ku, hh])
    rw [O v hv] at h1
    obtain ⟨w, w1, w2, w3⟩ := h.rb v h1 (fun j hj => by have := h2 j (by omega); rwa [K j hj] at this)
    exact ⟨w, hO w w1, by rw [M w (hone w w1), M v hv]; exact w2, w3.mono hO⟩
  · intro j hj
    simp only [visitS] at hj ⊢
    by_cases h1 : j = s.nk
    · rw [h1, Ku, Mu, Lu]; exact ⟨Nat.le_refl _, u, Ou, Mu, .refl⟩
    · rw [K j (by omega), M _ (hkne j (by omega)), Lo _ (hkne j (by omega))]
      obtain ⟨h2, w, w1, w2, w3⟩ := h.rw' j (by omega)
      exact ⟨h2, w, hO w w1, by rw [M w (hone w w1)]; exact w2, w3.mono hO⟩
  · intro j v i hj
    simp only [visitS] at hj ⊢
    intro h1 h2 h3 h4 h5 h6
    have hv : v ≠ u := fun hh => by rw [hh, hY0] at h4; omega
    rw [M v hv] at h2 h3
    rw [O v hv] at h1
    have hs := h.seen v i (h.opm v h1) h4 h5
    rw [O _ (hne _ hs)] at h6
    rw [M _ (hne _ hs)]
    by_cases h7 : j = s.nk
    · rw [h7, Ku, Mu] at h2; have := h.mle v; omega
    · rw [K j (by omega), M _ (hkne j (by omega))] at h2
      rw [K j (by omega), Lo _ (hkne j (by omega))]
      refine h.rl j v i (by omega) h1 h2 (fun h8 => ?_) h4 h5 h6
      have := h3 (by omega)
      rwa [K _ h8, M _ (hkne _ h8)] at this

def advS (s : TS) (j : Nat) : TS := { s with kx := fset s.kx j (s.kx j + 1), Y := fset s.Y (s.kt j) (s.Y (s.kt j) + 1) }

theorem inv_kinj (h : Inv n L e s) {i j : Nat} (hi : i < s.nk) (hj : j < s.nk) (hh : s.kt i = s.kt j) : i = j := by
  rcases Nat.lt_trichotomy i j with h1 | h1 | h1
  · have := h.ks i j h1 hj; rw [hh] at this; omega
  · exact h1
  · have := h.ks j i h1 hi; rw [hh] at this; omega

theorem inv_adv (h : Inv n L e s) {j : Nat} (hj : j < s.nk) (hx : s.kx j < L (s.kt j)) (hmet : s.met (e (s.kt j) (s.kx j)) ≠ 0) (hlow : s.op (e (s.kt j) (s.kx j)) = true → s.low (s.kt j) ≤ s.met (e (s.kt j) (s.kx j))) : Inv n L e (advS s j) := by
  have hY := (h.kY j hj).1
  have Yj : fset s.Y (s.kt j) (s.Y (s.kt j) + 1) (s.kt j) = s.kx j + 1 := by rw [fset_at, hY]
  have Yn : ∀ v, v ≠ s.kt j → fset s.Y (s.kt j) (s.Y (s.kt j) + 1) v = s.Y v := fun v hv => fset_ne _ _ hv
  constructor
  · exact h.ord
  · exact h.mle
  · exact h.minj
  · exact h.mlt
  · exact h.opm
  · exact h.ops
  · exact h.sts
  · exact h.ko
  · exact h.ks
  · intro j' hj'
    simp only [advS] at hj' ⊢
    by_cases hh : j' = j
    · rw [hh, Yj, fset_at]; exact ⟨rfl, by omega⟩
    · rw [Yn _ (fun h1 => hh (inv_kinj h hj' hj h1)), fset_ne _ _ hh]; exact h.kY j' hj'
  · intro v h1 h2
    simp only [advS] at h1 h2 ⊢
    rw [Yn v (fun hh => h2 j hj hh.symm)]; exact h.bY v h1 h2
  · intro v h1
    simp only [advS] at h1 ⊢
    rw [Yn v (fun hh => by rw [hh] at h1; exact h.opm _ (h.ko j hj) h1)]; exact h.wY v h1
  · intro v i h1
    simp only [advS] at h1 ⊢
    by_cases hv : v = s.kt j
    · rw [hv, Yj]
      intro h2 h3
      by_cases hi : i = s.kx j
      · rw [hi]; exact hmet
      · exact h.seen _ i (h.opm _ (h.ko j hj)) (by rw [hY]; omega) h3
    · rw [Yn v hv]; exact h.seen v i h1
  · exact h.pe
  · exact h.cc
  · exact h.cd
  · exact h.cu
  · exact h.cp
  · exact h.ce
  · exact h.cr
  · exact h.ra
  · exact h.rb
  · exact h.rw'
  · intro j' v i hj' h1 h2 h3
    simp only [advS] at hj' h1 h2 h3 ⊢
    by_cases hv : v = s.kt j
    · intro h4 h5 h6
      by_cases hi : i < s.Y v
      · exact h.rl j' v i hj' h1 h2 h3 hi h5 h6
      · rw [hv, Yj] at h4
        rw [hv, hY] at hi
        have hi' : i = s.kx j := by omega
        have hjj : j' = j := by
          rcases Nat.lt_trichotomy j' j with g | g | g
          · have g1 := h3 (by omega)
            rw [hv] at g1
            by_cases g2 : j' + 1 = j
            · rw [g2] at g1; omega
            · have := h.ks (j' + 1) j (by omega) hj; omega
          · exact g
          · have := h.ks j j' g hj'; rw [hv] at h2; omega
        rw [hjj, hv, hi']
        rw [hv, hi'] at h6
        exact hlow h6
    · rw [Yn v hv]; exact h.rl j' v i hj' h1 h2 h3

def lowS (s : TS) (j l : Nat) : TS := { s with low := fset s.low (s.kt j) l }

theorem inv_low (h : Inv n L e s) {j l : Nat} (hj : j < s.nk) (hl : l ≤ s.low (s.kt j)) (hw : ∃ w, s.op w = true ∧ s.met w = l ∧ Rch (Ed L e) (fun w => s.op w = true) (s.kt j) w) : Inv n L e (lowS s j l) := by
  constructor
  · exact h.ord
  · exact h.mle
  · exact h.minj
  · exact h.mlt
  · exact h.opm
  · exact h.ops
  · exact h.sts
  · exact h.ko
  · exact h.ks
  · exact h.kY
  · exact h.bY
  · exact h.wY
  · exact h.seen
  · exact h.pe
  · exact h.cc
  · exact h.cd
  · exact h.cu
  · exact h.cp
  · exact h.ce
  · exact h.cr
  · exact h.ra
  · exact h.rb
  · intro j' hj'
    simp only [lowS] at hj' ⊢
    by_cases hh : j' = j
    · rw [hh, fset_at]; exact ⟨Nat.le_trans hl (h.rw' j hj).1, hw⟩
    · rw [fset_ne _ _ (fun h1 => hh (inv_kinj h hj' hj h1))]; exact h.rw' j' hj'
  · intro j' v i hj' h1 h2 h3 h4 h5 h6
    simp only [lowS] at hj' h1 h2 h3 h4 h5 h6 ⊢
    have := h.rl j' v i hj' h1 h2 h3 h4 h5 h6
    by_cases hh : j' = j
    · rw [hh, fset_at]; rw [hh] at this; omega
    · rw [fset_ne _ _ (fun h1 => hh (inv_kinj h hj' hj h1))]; exact this
end
end Go.Gr
