import Derived.Test.Qxb6603705aTk
set_option linter.unusedVariables false
set_option linter.unusedSimpArgs false
namespace Go.Gr
section
def rowc (f : Nat → Nat) (u : Nat) : Nat → Nat
  | 0 => 0
  | i + 1 => rowc f u i + (if f i = u then 1 else 0)
def tot (L : Nat → Nat) (e : Nat → Nat → Nat) (u : Nat) : Nat → Nat
  | 0 => 0
  | t + 1 => tot L e u t + rowc (e t) u (L t)
def occ (L : Nat → Nat) (e : Nat → Nat → Nat) (u t i : Nat) : Nat := tot L e u t + rowc (e t) u i
def Of (L : Nat → Nat) (e : Nat → Nat → Nat) (n v : Nat) : Nat := sumN (fun u => tot L e u n) v
def rkey (L : Nat → Nat) (e : Nat → Nat → Nat) (n t i : Nat) : Nat := Of L e n (e t i) + occ L e (e t i) t i
variable {L : Nat → Nat} {e : Nat → Nat → Nat} {n : Nat}

theorem rowc_mono (f : Nat → Nat) (u i : Nat) : ∀ k, rowc f u i ≤ rowc f u (i + k)
  | 0 => Nat.le_refl _
  | k + 1 => Nat.le_trans (rowc_mono f u i k) (by show rowc f u (i + k) ≤ rowc f u (i + k) + _; omega)
theorem tot_mono (u t : Nat) : ∀ k, tot L e u t ≤ tot L e u (t + k)
  | 0 => Nat.le_refl _
  | k + 1 => Nat.le_trans (tot_mono u t k) (by show tot L e u (t + k) ≤ tot L e u (t + k) + _; omega)
theorem occ_next (u t i : Nat) : occ L e u t (i + 1) = occ L e u t i + (if e t i = u then 1 else 0) := by simp only [occ, rowc]; omega
theorem occ_row (u t : Nat) : occ L e u t (L t) = occ L e u (t + 1) 0 := by simp only [occ, tot, rowc]; omega
theorem occ_zero (u t : Nat) : occ L e u t 0 = tot L e u t := by simp only [occ, rowc]; omega
theorem occ_tot (u t i : Nat) (hi : i ≤ L t) (k : Nat) : occ L e u t i ≤ tot L e u (t + 1 + k) := by
  have h1 := rowc_mono (e t) u i (L t - i)
  rw [show i + (L t - i) = L t by omega] at h1
  have h2 := tot_mono (L := L) (e := e) u (t + 1) k
  have h3 : tot L e u (t + 1) = tot L e u t + rowc (e t) u (L t) := rfl
  simp only [occ]; omega
theorem occ_lt {t i : Nat} (ht : t < n) (hi : i < L t) : occ L e (e t i) t i < tot L e (e t i) n := by
  have h1 := occ_tot (L := L) (e := e) (e t i) t (i + 1) (by omega) (n - (t + 1))
  rw [show t + 1 + (n - (t + 1)) = n by omega, occ_next, if_pos rfl] at h1
  omega
theorem Of_succ (v : Nat) : Of L e n (v + 1) = Of L e n v + tot L e v n := rfl
theorem Of_mono (v : Nat) : ∀ k, Of L e n v ≤ Of L e n (v + k)
  | 0 => Nat.le_refl _
  | k + 1 => Nat.le_trans (Of_mono v k) (by show Of L e n (v + k) ≤ Of L e n (v + k) + _; omega)
theorem Of_le {a b : Nat} (h : a ≤ b) : Of L e n a ≤ Of L e n b := by
  have := Of_mono (L := L) (e := e) (n := n) a (b - a)
  rwa [show a + (b - a) = b by omega] at this
theorem sumN_bump (f : Nat → Nat) (a : Nat) : ∀ k, a < k → sumN (fun u => f u + (if a = u then 1 else 0)) k = sumN f k + 1
  | 0, h => absurd h (by omega)
  | k + 1, h => by
    simp only [sumN]
    by_cases ha : a = k
    · rw [if_pos ha, sumN_congr (g := f) k (fun i hi => by rw [if_neg (by omega)]; rfl)]; omega
    · rw [if_neg ha, sumN_bump f a k (by omega)]; omega
theorem sum_occ {t : Nat} (he : ∀ i, i < L t → e t i < n) : ∀ i, i ≤ L t → sumN (fun u => occ L e u t i) n = sumN (fun u => tot L e u t) n + i
  | 0, _ => by rw [sumN_congr n (fun u _ => occ_zero u t)]; rfl
  | i + 1, hi => by
    rw [sumN_congr n (fun u _ => occ_next u t i), sumN_bump _ _ n (he i (by omega)), sum_occ he i (by omega)]
    omega
theorem sum_tot : ∀ t, (∀ t' i, t' < t → i < L t' → e t' i < n) → sumN (fun u => tot L e u t) n = sumN L t
  | 0, _ => by
    have : ∀ k, sumN (fun u => tot L e u 0) k = 0 := fun k => by
      induction k with
      | zero => rfl
      | succ k ih => simp only [sumN, tot] at ih ⊢; omega
    rw [this]; rfl
  | t + 1, he => by
    have h1 := sum_occ (L := L) (e := e) (n := n) (t := t) (fun i hi => he t i (by omega) hi) (L t) (Nat.le_refl _)
    rw [sumN_congr n (fun u _ => (occ_row u t).trans (occ_zero u (t + 1))), sum_tot t (fun t' i ht hi => he t' i (by omega) hi)] at h1
    rw [h1]; rfl
theorem Of_end (he : ∀ t i, t < n → i < L t → e t i < n) : Of L e n n = sumN L n := sum_tot n he
theorem rkey_lo (t i : Nat) : Of L e n (e t i) ≤ rkey L e n t i := by simp only [rkey]; omega
theorem rkey_hi {t i : Nat} (ht : t < n) (hi : i < L t) : rkey L e n t i < Of L e n (e t i + 1) := by
  have := occ_lt (e := e) ht hi
  rw [Of_succ]; simp only [rkey]; omega
theorem rkey_lt (he : ∀ t i, t < n → i < L t → e t i < n) {t i : Nat} (ht : t < n) (hi : i < L t) : rkey L e n t i < sumN L n := by
  have h1 := rkey_hi (e := e) ht hi
  have h2 := Of_le (L := L) (e := e) (n := n) (show e t i + 1 ≤ n from he t i ht hi)
  rw [Of_end he] at h2
  omega
theorem occ_before {u t i t' i' : Nat} (hi : i < L t) (hu : e t i = u) (hlt : t < t' ∨ (t = t' ∧ i < i')) : occ L e u t i < occ L e u t' i' := by
  have h1 : occ L e u t i < occ L e u t (i + 1) := by rw [occ_next, if_pos hu]; omega
  rcases hlt with h | ⟨rfl, h⟩
  · have h2 := occ_tot (L := L) (e := e) u t (i + 1) (by omega) (t' - (t + 1))
    rw [show t + 1 + (t' - (t + 1)) = t' by omega] at h2
    have : tot L e u t' ≤ occ L e u t' i' := by simp only [occ]; omega
    omega
  · have h2 := rowc_mono (e t) u (i + 1) (i' - (i + 1))
    rw [show i + 1 + (i' - (i + 1)) = i' by omega] at h2
    simp only [occ] at h1 ⊢; omega
theorem rkey_ne {t i t' i' : Nat} (ht : t < n) (hi : i < L t) (ht' : t' < n) (hi' : i' < L t') (hlt : t < t' ∨ (t = t' ∧ i < i')) : rkey L e n t i ≠ rkey L e n t' i' := by
  rcases Nat.lt_trichotomy (e t i) (e t' i') with h | h | h
  · have h1 := rkey_hi (e := e) ht hi
    have h2 := Of_le (L := L) (e := e) (n := n) (show e t i + 1 ≤ e t' i' from h)
    have h3 := rkey_lo (L := L) (e := e) (n := n) t' i'
    omega
  · have h1 := occ_before (e := e) (t' := t') (i' := i') hi rfl hlt
    simp only [rkey]
    rw [← h]; omega
  · have h1 := rkey_hi (e := e) ht' hi'
    have h2 := Of_le (L := L) (e := e) (n := n) (show e t' i' + 1 ≤ e t i from h)
    have h3 := rkey_lo (L := L) (e := e) (n := n) t i
    omega
theorem sumN_le (b : Nat) : ∀ k, (∀ i, i < k → L i ≤ b) → sumN L k ≤ k * b
  | 0, _ => by simp [sumN]
  | k + 1, h => by
    have h1 := sumN_le b k (fun i hi => h i (by omega))
    have h2 := h k (by omega)
    simp only [sumN, Nat.succ_mul]; omega
end
end Go.Gr
