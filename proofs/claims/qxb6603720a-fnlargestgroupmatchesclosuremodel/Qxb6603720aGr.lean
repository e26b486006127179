/-
  THE PLAIN LAWS: walks in a graph; Bellman and Ford; a search level by level. No Go in sight.
-/
set_option linter.unusedVariables false
set_option linter.unusedSimpArgs false
namespace Go.Gr

def Walk (E : Int → Int → Prop) (S : Int → Prop) (s : Int) : Nat → Int → Prop
  | 0, v => v = s ∧ S s
  | l + 1, v => ∃ t, Walk E S s l t ∧ E t v ∧ S v

section
variable {E : Int → Int → Prop} {S : Int → Prop} {s : Int}
theorem walk_S : ∀ {l : Nat} {v : Int}, Walk E S s l v → S v
  | 0, v, h => h.1 ▸ h.2
  | l + 1, v, ⟨t, _, _, h⟩ => h
theorem walk_start {l : Nat} {v : Int} (h : Walk E S s l v) : S s := by
  induction l generalizing v with
  | zero => exact h.2
  | succ l ih => obtain ⟨t, ht, _⟩ := h; exact ih ht
def MinW (E : Int → Int → Prop) (S : Int → Prop) (s : Int) (l : Nat) (v : Int) : Prop := Walk E S s l v ∧ ∀ l', l' < l → ¬ Walk E S s l' v
theorem exists_min {l : Nat} {v : Int} (h : Walk E S s l v) : ∃ l', l' ≤ l ∧ MinW E S s l' v := by
  induction l using Nat.strongRecOn with
  | _ l ih =>
    by_cases hm : ∃ l', l' < l ∧ Walk E S s l' v
    · obtain ⟨l', hlt, hw⟩ := hm
      obtain ⟨l'', h1, h2⟩ := ih l' hlt hw
      exact ⟨l'', by omega, h2⟩
    · exact ⟨l, Nat.le_refl _, h, fun l' hl hw => hm ⟨l', hl, hw⟩⟩
theorem min_uniq {l l' : Nat} {v : Int} (h : MinW E S s l v) (h' : MinW E S s l' v) : l = l' := by
  rcases Nat.lt_trichotomy l l' with h1 | h1 | h1
  · exact absurd h.1 (h'.2 l h1)
  · exact h1
  · exact absurd h'.1 (h.2 l' h1)
theorem min_pred {l : Nat} {v : Int} (h : MinW E S s (l + 1) v) : ∃ t, MinW E S s l t ∧ E t v := by
  obtain ⟨⟨t, ht, he, hs⟩, hm⟩ := h
  exact ⟨t, ⟨ht, fun l' hl hw => hm (l' + 1) (by omega) ⟨t, hw, he, hs⟩⟩, he⟩
theorem nodup_le : ∀ (l1 l2 : List Int), l1.Nodup → (∀ x ∈ l1, x ∈ l2) → l1.length ≤ l2.length
  | [], l2, _, _ => Nat.zero_le _
  | a :: l1, l2, hn, hs => by
    have ha : a ∈ l2 := hs a (by simp)
    have hn' := List.nodup_cons.1 hn
    have ih := nodup_le l1 (l2.erase a) hn'.2 (fun x hx => by
      have hne : x ≠ a := fun e => hn'.1 (e ▸ hx)
      exact (List.mem_erase_of_ne hne).2 (hs x (by simp [hx])))
    rw [List.length_erase_of_mem ha] at ih
    have : 0 < l2.length := List.length_pos_of_mem ha
    simp; omega
theorem min_list : ∀ {l : Nat} {v : Int}, MinW E S s l v → ∃ vs : List Int, vs.length = l + 1 ∧ vs.Nodup ∧ (∀ x ∈ vs, S x) ∧ ∀ x ∈ vs, ∃ j, j ≤ l ∧ MinW E S s j x
  | 0, v, h => ⟨[v], rfl, by simp, by simp; exact walk_S h.1, by intro x hx; simp at hx; subst hx; exact ⟨0, Nat.le_refl _, h⟩⟩
  | l + 1, v, h => by
    obtain ⟨t, ht, _⟩ := min_pred h
    obtain ⟨vs, h1, h2, h3, h4⟩ := min_list ht
    refine ⟨v :: vs, by simp [h1], List.nodup_cons.2 ⟨fun hv => ?_, h2⟩, ?_, ?_⟩
    · obtain ⟨j, hj, hm⟩ := h4 v hv
      have := min_uniq h hm
      omega
    · intro x hx
      simp at hx
      rcases hx with rfl | hx
      · exact walk_S h.1
      · exact h3 x hx
    · intro x hx
      simp at hx
      rcases hx with rfl | hx
      · exact ⟨l + 1, Nat.le_refl _, h⟩
      · obtain ⟨j, hj, hm⟩ := h4 x hx
        exact ⟨j, by omega, hm⟩
theorem min_lt {l : Nat} {v : Int} (h : MinW E S s l v) (dl : List Int) (hd : ∀ x, S x → x ∈ dl) : l < dl.length := by
  obtain ⟨vs, h1, h2, h3, _⟩ := min_list h
  have := nodup_le vs dl h2 (fun x hx => hd x (h3 x hx))
  omega

/-- Bellman and Ford, nothing left to relax -/
theorem bf_fix {D : Int → Int} (h0 : 0 ≤ D s ∧ D s ≤ 0) (hrel : ∀ t u, S t → S u → E t u → 0 ≤ D t → 0 ≤ D u ∧ D u ≤ D t + 1) : ∀ {l : Nat} {v : Int}, Walk E S s l v → 0 ≤ D v ∧ D v ≤ l
  | 0, v, h => by rw [h.1]; exact ⟨h0.1, by simpa using h0.2⟩
  | l + 1, v, ⟨t, ht, he, hs⟩ => by
    have ih := bf_fix h0 hrel ht
    have := hrel t v (walk_S ht) hs he ih.1
    exact ⟨this.1, by have := this.2; omega⟩
/-- .. or as many passes as there are vertices -/
theorem bf_all {D : Int → Int} {N : Nat} (dl : List Int) (hd : ∀ x, S x → x ∈ dl) (hN : dl.length ≤ N) (hp : ∀ l v, l ≤ N → Walk E S s l v → 0 ≤ D v ∧ D v ≤ l) {l : Nat} {v : Int} (h : Walk E S s l v) : 0 ≤ D v ∧ D v ≤ l := by
  obtain ⟨l', hl, hm⟩ := exists_min h
  have h1 := min_lt hm dl hd
  have := hp l' v (by omega) hm.1
  exact ⟨this.1, by have := this.2; omega⟩

/-! ### a search level by level -/
structure Bfs (E : Int → Int → Prop) (S : Int → Prop) (s : Int) (cnt : Nat) (D : Nat → Int) (par δ : Nat → Nat) : Prop where
  pos : 0 < cnt
  d0 : D 0 = s
  δ0 : δ 0 = 0
  inj : ∀ i j, i < cnt → j < cnt → D i = D j → i = j
  mem : ∀ i, i < cnt → S (D i)
  par : ∀ j, 0 < j → j < cnt → par j < j ∧ E (D (par j)) (D j) ∧ δ j = δ (par j) + 1
  mono : ∀ i j, i ≤ j → j < cnt → δ i ≤ δ j
def Done (E : Int → Int → Prop) (S : Int → Prop) (s : Int) (cnt : Nat) (D : Nat → Int) (δ : Nat → Nat) (i : Nat) : Prop := ∀ u, E (D i) u → u ≠ s ∧ (S u → ∃ j, j < cnt ∧ D j = u ∧ δ j ≤ δ i + 1)

theorem bfs_near {cnt : Nat} {D : Nat → Int} {par δ : Nat → Nat} (hb : Bfs E S s cnt D par δ) {c : Nat} (hc : c < cnt) (hd : ∀ i, i < c → Done E S s cnt D δ i) : ∀ {l : Nat} {v : Int}, Walk E S s l v → l < δ c → ∃ j, j < c ∧ D j = v ∧ δ j ≤ l
  | 0, v, h, hl => by
    refine ⟨0, ?_, by rw [h.1]; exact hb.d0, by rw [hb.δ0]; exact Nat.le_refl _⟩
    cases Nat.eq_zero_or_pos c with
    | inl h => subst h; rw [hb.δ0] at hl; omega
    | inr h => exact h
  | l + 1, v, ⟨t, ht, he, hs⟩, hl => by
    obtain ⟨j, hj, hD, hδ⟩ := bfs_near hb hc hd ht (by omega)
    obtain ⟨_, h2⟩ := hd j hj v (hD ▸ he)
    obtain ⟨j', hj', hD', hδ'⟩ := h2 hs
    refine ⟨j', ?_, hD', by omega⟩
    rcases Nat.lt_or_ge j' c with h | h
    · exact h
    · have := hb.mono c j' h hj'
      omega
theorem bfs_min {cnt : Nat} {D : Nat → Int} {par δ : Nat → Nat} (hb : Bfs E S s cnt D par δ) {c : Nat} (hc : c < cnt) (hd : ∀ i, i < c → Done E S s cnt D δ i) {l : Nat} {t : Int} (h : Walk E S s l t) (he : E t s) : δ c ≤ l := by
  rcases Nat.lt_or_ge l (δ c) with hl | hl
  · obtain ⟨j, hj, hD, _⟩ := bfs_near hb hc hd h hl
    exact absurd rfl (hd j hj s (hD ▸ he)).1
  · exact hl
theorem bfs_all {cnt : Nat} {D : Nat → Int} {par δ : Nat → Nat} (hb : Bfs E S s cnt D par δ) (hd : ∀ i, i < cnt → Done E S s cnt D δ i) : ∀ {l : Nat} {v : Int}, Walk E S s l v → ∃ j, j < cnt ∧ D j = v
  | 0, v, h => ⟨0, hb.pos, by rw [h.1]; exact hb.d0⟩
  | l + 1, v, ⟨t, ht, he, hs⟩ => by
    obtain ⟨j, hj, hD⟩ := bfs_all hb hd ht
    obtain ⟨j', hj', hD', _⟩ := (hd j hj v (hD ▸ he)).2 hs
    exact ⟨j', hj', hD'⟩
theorem bfs_none {cnt : Nat} {D : Nat → Int} {par δ : Nat → Nat} (hb : Bfs E S s cnt D par δ) (hd : ∀ i, i < cnt → Done E S s cnt D δ i) {l : Nat} {t : Int} (h : Walk E S s l t) (he : E t s) : False := by
  obtain ⟨j, hj, hD⟩ := bfs_all hb hd h
  exact absurd rfl (hd j hj s (hD ▸ he)).1

/-- a new vertex u, found from number c -/
theorem bfs_add {cnt : Nat} {D : Nat → Int} {par δ : Nat → Nat} (hb : Bfs E S s cnt D par δ) {c : Nat} {u : Int} (hc : c < cnt) (hS : S u) (hE : E (D c) u) (hnew : ∀ j, j < cnt → D j ≠ u) (htop : ∀ j, j < cnt → δ j ≤ δ c + 1) :
    Bfs E S s (cnt + 1) (fun i => if i = cnt then u else D i) (fun i => if i = cnt then c else par i) (fun i => if i = cnt then δ c + 1 else δ i) := by
  have hp := hb.pos
  refine ⟨by omega, ?_, ?_, ?_, ?_, ?_, ?_⟩
  · show (if 0 = cnt then u else D 0) = s
    rw [if_neg (by omega)]; exact hb.d0
  · show (if 0 = cnt then δ c + 1 else δ 0) = 0
    rw [if_neg (by omega)]; exact hb.δ0
  · intro i j hi hj h
    try simp only at h
    by_cases h1 : i = cnt <;> by_cases h2 : j = cnt
    · omega
    · rw [if_pos h1, if_neg h2] at h; exact absurd h.symm (hnew j (by omega))
    · rw [if_neg h1, if_pos h2] at h; exact absurd h (hnew i (by omega))
    · rw [if_neg h1, if_neg h2] at h; exact hb.inj i j (by omega) (by omega) h
  · intro i hi
    show S (if i = cnt then u else D i)
    by_cases h1 : i = cnt
    · rw [if_pos h1]; exact hS
    · rw [if_neg h1]; exact hb.mem i (by omega)
  · intro j hj0 hj
    try simp only
    by_cases h1 : j = cnt
    · subst h1
      rw [if_pos rfl, if_pos rfl, if_pos rfl, if_neg (by omega), if_neg (by omega)]
      exact ⟨hc, hE, rfl⟩
    · obtain ⟨a1, a2, a3⟩ := hb.par j hj0 (by omega)
      rw [if_neg h1, if_neg h1, if_neg h1, if_neg (by omega), if_neg (by omega)]
      exact ⟨a1, a2, a3⟩
  · intro i j hij hj
    try simp only
    by_cases h1 : j = cnt
    · rw [if_pos h1]
      by_cases h2 : i = cnt
      · rw [if_pos h2]; exact Nat.le_refl _
      · rw [if_neg h2]; exact htop i (by omega)
    · rw [if_neg h1, if_neg (by omega)]
      exact hb.mono i j hij (by omega)

theorem done_add {cnt : Nat} {D : Nat → Int} {δ : Nat → Nat} {i c : Nat} {u : Int} {x : Nat} (hi : i < cnt) (hd : Done E S s cnt D δ i) : Done E S s (cnt + 1) (fun j => if j = cnt then u else D j) (fun j => if j = cnt then x else δ j) i := by
  intro v hv
  try simp only at hv
  rw [if_neg (by omega)] at hv
  obtain ⟨h1, h2⟩ := hd v hv
  refine ⟨h1, fun hs => ?_⟩
  obtain ⟨j, hj, h3, h4⟩ := h2 hs
  refine ⟨j, by omega, ?_, ?_⟩
  · try simp only
    rw [if_neg (by omega)]; exact h3
  · try simp only
    rw [if_neg (by omega), if_neg (by omega)]; exact h4
theorem bfs_le {cnt h : Nat} {D : Nat → Int} {par δ : Nat → Nat} (hb : Bfs E S s cnt D par δ) (hS : ∀ v, S v → 0 ≤ v ∧ v < h) : cnt ≤ h := by
  have hn : ((List.range cnt).map D).Nodup := by
    rw [List.nodup_iff_pairwise_ne, List.pairwise_map]
    refine List.Pairwise.imp_of_mem ?_ (List.nodup_iff_pairwise_ne.1 List.nodup_range)
    intro i j hi hj hne e
    exact hne (hb.inj i j (by simpa using hi) (by simpa using hj) e)
  have := nodup_le _ ((List.range h).map (fun n : Nat => (n : Int))) hn (fun x hx => by
    obtain ⟨i, hi, rfl⟩ := List.mem_map.1 hx
    have := hS _ (hb.mem i (by simpa using hi))
    exact List.mem_map.2 ⟨(D i).toNat, by simp; omega, by omega⟩)
  simpa using this

def anc (par : Nat → Nat) (c : Nat) : Nat → Nat
  | 0 => c
  | k + 1 => par (anc par c k)
theorem anc_spec {cnt : Nat} {D : Nat → Int} {par δ : Nat → Nat} (hb : Bfs E S s cnt D par δ) {c : Nat} (hc : c < cnt) : ∀ k, k ≤ δ c → anc par c k < cnt ∧ δ (anc par c k) + k = δ c
  | 0, _ => ⟨hc, rfl⟩
  | k + 1, hk => by
    obtain ⟨h1, h2⟩ := anc_spec hb hc k (by omega)
    have hpos : 0 < anc par c k := by
      rcases Nat.eq_zero_or_pos (anc par c k) with h | h
      · rw [h, hb.δ0] at h2; omega
      · exact h
    obtain ⟨a1, _, a3⟩ := hb.par _ hpos h1
    exact ⟨by show par (anc par c k) < cnt; omega, by show δ (par (anc par c k)) + (k + 1) = δ c; omega⟩
theorem anc_pos {cnt : Nat} {D : Nat → Int} {par δ : Nat → Nat} (hb : Bfs E S s cnt D par δ) {c : Nat} (hc : c < cnt) {k : Nat} (hk : k < δ c) : 0 < anc par c k := by
  obtain ⟨h1, h2⟩ := anc_spec hb hc k (by omega)
  rcases Nat.eq_zero_or_pos (anc par c k) with h | h
  · rw [h, hb.δ0] at h2; omega
  · exact h
theorem anc_end {cnt : Nat} {D : Nat → Int} {par δ : Nat → Nat} (hb : Bfs E S s cnt D par δ) {c : Nat} (hc : c < cnt) : anc par c (δ c) = 0 := by
  obtain ⟨h1, h2⟩ := anc_spec hb hc (δ c) (Nat.le_refl _)
  rcases Nat.eq_zero_or_pos (anc par c (δ c)) with h | h
  · exact h
  · obtain ⟨_, _, a3⟩ := hb.par _ h h1
    omega
/-- WHAT THE CHAIN IS: N steps from s back to s, as few as can be. -/
structure Chain (E : Int → Int → Prop) (S : Int → Prop) (s : Int) (N : Nat) (r : Nat → Int) : Prop where
  pos : 0 < N
  first : r 0 = s
  last : r N = s
  mem : ∀ i, i < N → S (r i)
  step : ∀ i, i < N → E (r i) (r (i + 1))
  least : ∀ l t, Walk E S s l t → E t s → N ≤ l + 1
theorem chain_of_bfs {cnt : Nat} {D : Nat → Int} {par δ : Nat → Nat} (hb : Bfs E S s cnt D par δ) {c : Nat} (hc : c < cnt) (hd : ∀ i, i < c → Done E S s cnt D δ i) (he : E (D c) s) :
    Chain E S s (δ c + 1) (fun i => if i ≤ δ c then D (anc par c (δ c - i)) else s) := by
  refine ⟨by omega, ?_, ?_, ?_, ?_, ?_⟩
  · simp only [Nat.zero_le, if_true, Nat.sub_zero]
    rw [anc_end hb hc]; exact hb.d0
  · try simp only
    rw [if_neg (by omega)]
  · intro i hi
    try simp only
    rw [if_pos (by omega)]
    exact hb.mem _ (anc_spec hb hc _ (by omega)).1
  · intro i hi
    try simp only
    rw [if_pos (by omega)]
    by_cases h : i = δ c
    · subst h
      rw [if_neg (by omega), Nat.sub_self]
      exact he
    · rw [if_pos (by omega)]
      have e : δ c - i = (δ c - (i + 1)) + 1 := by omega
      rw [e]
      have hpos := anc_pos hb hc (k := δ c - (i + 1)) (by omega)
      exact (hb.par _ hpos (anc_spec hb hc _ (by omega)).1).2.1
  · intro l t hw ht
    have := bfs_min hb hc hd hw ht
    omega

theorem chain_walk {N : Nat} {r : Nat → Int} (h : Chain E S s N r) : ∀ i, i < N → Walk E S s i (r i)
  | 0, hi => ⟨h.first, h.first ▸ h.mem 0 hi⟩
  | i + 1, hi => ⟨r i, chain_walk h i (by omega), h.step i (by omega), h.mem (i + 1) hi⟩
theorem chain_on {N : Nat} {r : Nat → Int} (h : Chain E S s N r) {l i : Nat} (hw : Walk E S s l (r i)) : ∀ j, i + j < N → Walk E S s (l + j) (r (i + j))
  | 0, hj => hw
  | j + 1, hj => ⟨r (i + j), chain_on h hw j (by omega), h.step (i + j) (by omega), h.mem (i + (j + 1)) hj⟩
theorem chain_min {N : Nat} {r : Nat → Int} (h : Chain E S s N r) {i : Nat} (hi : i < N) : MinW E S s i (r i) := by
  refine ⟨chain_walk h i hi, fun l' hl hw => ?_⟩
  have h1 := chain_on h hw (N - 1 - i) (by omega)
  have e : i + (N - 1 - i) = N - 1 := by omega
  rw [e] at h1
  have h2 := h.step (N - 1) (by omega)
  have e2 : N - 1 + 1 = N := by have := h.pos; omega
  rw [e2, h.last] at h2
  have := h.least _ _ h1 h2
  omega
theorem chain_inj {N : Nat} {r : Nat → Int} (h : Chain E S s N r) {i j : Nat} (hi : i < N) (hj : j < N) (e : r i = r j) : i = j :=
  min_uniq (chain_min h hi) (e ▸ chain_min h hj)
theorem chain_le {N : Nat} {r : Nat → Int} (h : Chain E S s N r) (dl : List Int) (hd : ∀ x, S x → x ∈ dl) : N ≤ dl.length := by
  have := min_lt (chain_min h (i := N - 1) (by have := h.pos; omega)) dl hd
  omega

/-! ### Bellman and Ford, step by step. The graph: row t has L t members, the i-th is H t i. -/
structure Dist (E : Int → Int → Prop) (S : Int → Prop) (s : Int) (h : Nat) (D : Nat → Int) (B : Int) : Prop where
  lo : ∀ v, v < h → -1 ≤ D v
  hi : ∀ v, v < h → D v ≤ B
  wk : ∀ v : Nat, v < h → 0 ≤ D v → Walk E S s (D v).toNat v
  st : D s.toNat = 0
theorem Dist.mono {h : Nat} {D : Nat → Int} {B B' : Int} (hd : Dist E S s h D B) (hB : B ≤ B') : Dist E S s h D B' := ⟨hd.lo, fun v hv => Int.le_trans (hd.hi v hv) hB, hd.wk, hd.st⟩
def setD (D : Nat → Int) (u : Nat) (x : Int) : Nat → Int := fun v => if v = u then x else D v
theorem dist_relax {h : Nat} {D : Nat → Int} {B : Int} (hd : Dist E S s h D B) {t u : Nat} (ht : t < h) (hu : u < h) (hDt : 0 ≤ D t) (hE : E t u) (hS : S u) (hc : D u < 0 ∨ D t + 1 < D u) : Dist E S s h (setD D u (D t + 1)) (B + 1) := by
  have hne : s.toNat ≠ u := by
    intro e
    have := hd.st
    rw [e] at this
    omega
  refine ⟨fun v hv => ?_, fun v hv => ?_, fun v hv h0 => ?_, ?_⟩
  · unfold setD; split
    · omega
    · exact hd.lo v hv
  · unfold setD; split
    · have := hd.hi t ht; omega
    · have := hd.hi v hv; omega
  · unfold setD at h0 ⊢
    split
    · rename_i e
      subst e
      have e2 : (D t + 1).toNat = (D t).toNat + 1 := by omega
      rw [e2]
      exact ⟨t, hd.wk t ht hDt, hE, hS⟩
    · rename_i e
      rw [if_neg e] at h0
      exact hd.wk v hv h0
  · unfold setD; rw [if_neg hne]; exact hd.st
def Imp (h : Nat) (D D' : Nat → Int) : Prop := ∀ v, v < h → 0 ≤ D v → 0 ≤ D' v ∧ D' v ≤ D v
theorem imp_refl (h : Nat) (D : Nat → Int) : Imp h D D := fun v _ h0 => ⟨h0, Int.le_refl _⟩
theorem imp_relax {h : Nat} {D D0 : Nat → Int} (hi : Imp h D0 D) {t u : Nat} (hDt : 0 ≤ D t) (hc : D u < 0 ∨ D t + 1 < D u) : Imp h D0 (setD D u (D t + 1)) := by
  intro v hv h0
  have := hi v hv h0
  unfold setD; split
  · rename_i e; subst e; omega
  · exact this
/-- every walk of at most p steps to t, and one of t's first i members -/
def Cov (E : Int → Int → Prop) (S : Int → Prop) (s : Int) (H : Nat → Nat → Int) (p : Nat) (D : Nat → Int) (t i : Nat) : Prop :=
  ∀ l, l ≤ p → Walk E S s l t → ∀ i', i' < i → S (H t i') → 0 ≤ D (H t i').toNat ∧ D (H t i').toNat ≤ l + 1
def Fx (S : Int → Prop) (H : Nat → Nat → Int) (D : Nat → Int) (t i : Nat) : Prop := 0 ≤ D t → ∀ i', i' < i → S (H t i') → 0 ≤ D (H t i').toNat ∧ D (H t i').toNat ≤ D t + 1
theorem cov_relax {H : Nat → Nat → Int} {p : Nat} {D : Nat → Int} {t i a u : Nat} (hc : Cov E S s H p D t i) (hDt : 0 ≤ D a) (hr : D u < 0 ∨ D a + 1 < D u) : Cov E S s H p (setD D u (D a + 1)) t i := by
  intro l hl hw i' hi' hS
  have := hc l hl hw i' hi' hS
  unfold setD; split
  · rename_i e; rw [e] at this; omega
  · exact this
theorem walk_lt {h : Nat} (hS : ∀ v, S v → 0 ≤ v ∧ v < h) {l : Nat} {v : Int} (hw : Walk E S s l v) : 0 ≤ v ∧ v < h := hS v (walk_S hw)
/-- the next pass's law -/
theorem pass_next {L : Nat → Nat} {H : Nat → Nat → Int} {h p cnt : Nat} {D0 D : Nat → Int} {X : Nat → Int} (hE : ∀ t u, E t u → ∃ i, i < L t.toNat ∧ H t.toNat i = u) (hS : ∀ v, S v → 0 ≤ v ∧ v < h) (hX : ∀ v, S v → ∃ j, j < cnt ∧ X j = v)
    (h0 : ∀ l v, l ≤ p → Walk E S s l v → 0 ≤ D0 v.toNat ∧ D0 v.toNat ≤ l) (hi : Imp h D0 D) (hc : ∀ j, j < cnt → Cov E S s H p D (X j).toNat (L (X j).toNat)) :
    ∀ l v, l ≤ p + 1 → Walk E S s l v → 0 ≤ D v.toNat ∧ D v.toNat ≤ l := by
  intro l v hl hw
  by_cases hlp : l ≤ p
  · have h1 := h0 l v hlp hw
    have hv := walk_lt hS hw
    have h2 := hi v.toNat (by omega) h1.1
    omega
  · obtain rfl : l = p + 1 := by omega
    obtain ⟨t, ht, he, hs⟩ := hw
    obtain ⟨i, hi', hH⟩ := hE t v he
    obtain ⟨j, hj, hXj⟩ := hX t (walk_S ht)
    have hv := walk_lt hS ht
    have hwt : Walk E S s p ((X j).toNat : Int) := by
      rw [hXj]
      have : ((t.toNat : Nat) : Int) = t := by omega
      rw [this]; exact ht
    have := hc j hj p (Nat.le_refl _) hwt i (by rw [hXj]; exact hi') (by rw [hXj, hH]; exact hs)
    rw [hXj, hH] at this
    exact ⟨this.1, by have := this.2; omega⟩
theorem pass_fix {L : Nat → Nat} {H : Nat → Nat → Int} {h cnt : Nat} {D : Nat → Int} {X : Nat → Int} {B : Int} (hE : ∀ t u, E t u → ∃ i, i < L t.toNat ∧ H t.toNat i = u) (hX : ∀ v, S v → ∃ j, j < cnt ∧ X j = v)
    (hd : Dist E S s h D B) (hf : ∀ j, j < cnt → Fx S H D (X j).toNat (L (X j).toNat)) {l : Nat} {v : Int} (hw : Walk E S s l v) : 0 ≤ D v.toNat ∧ D v.toNat ≤ l := by
  refine bf_fix (D := fun v => D v.toNat) ⟨by show 0 ≤ D s.toNat; rw [hd.st]; omega, by show D s.toNat ≤ 0; rw [hd.st]; omega⟩ ?_ hw
  intro t u hSt hSu he h0
  obtain ⟨i, hi', hH⟩ := hE t u he
  obtain ⟨j, hj, hXj⟩ := hX t hSt
  have := hf j hj (by rw [hXj]; exact h0) i (by rw [hXj]; exact hi') (by rw [hXj, hH]; exact hSu)
  rw [hXj, hH] at this
  exact this
theorem pass_all {h cnt : Nat} {D : Nat → Int} {X : Nat → Int} (hX : ∀ v, S v → ∃ j, j < cnt ∧ X j = v) (hp : ∀ l v, l ≤ cnt → Walk E S s l v → 0 ≤ D v.toNat ∧ D v.toNat ≤ l) {l : Nat} {v : Int} (hw : Walk E S s l v) : 0 ≤ D v.toNat ∧ D v.toNat ≤ l := by
  refine bf_all (D := fun v => D v.toNat) (N := cnt) ((List.range cnt).map X) (fun x hx => ?_) (by simp) hp hw
  obtain ⟨j, hj, e⟩ := hX x hx
  exact List.mem_map.2 ⟨j, by simpa using hj, e⟩
end
end Go.Gr
