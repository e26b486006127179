import Derived.Test.Qxb6603705aSr
import Derived.Test.Qxb6603705aWd
import Derived.Test.Qxb6603705aTk
set_option linter.unusedVariables false
set_option linter.unusedSimpArgs false
namespace Go.Proofs.Qxb6603705a
open Go Go.Vc Go.RowKit Go.Gr

def iN (x : Nat) : Value := .int .i64 (x : Int)
def KF (kt kx : Nat → Nat) (i : Nat) : Value := if i % 2 = 0 then iN (kt (i / 2)) else iN (kx (i / 2))

/-- Tarjan's memory -/
structure TM (w0 : World) (n : Nat) (v0 : Value) (s : TS) (gs gk gc : Option Nat) (vs vk vc : Value) (CV : Nat → Value) (w : World) : Prop where
  below : Below w0.heap.size w0 w
  gb : w.cell? ⟨w0.heap.size, 1, none⟩ = some v0
  mB : w.rowIs (w0.heap.size + 2) 29 1 (fun _ => sl (w0.heap.size + 1) n)
  mA : w.rowIs (w0.heap.size + 1) 3 n (fun i => iN (s.met i))
  lB : w.rowIs (w0.heap.size + 4) 29 1 (fun _ => sl (w0.heap.size + 3) n)
  lA : w.rowIs (w0.heap.size + 3) 3 n (fun i => iN (s.low i))
  oB : w.rowIs (w0.heap.size + 6) 39 1 (fun _ => sl (w0.heap.size + 5) n)
  oA : w.rowIs (w0.heap.size + 5) 4 n (fun i => .bool (s.op i))
  sB : w.rowIs (w0.heap.size + 7) 29 1 (fun _ => vs)
  cB : w.rowIs (w0.heap.size + 8) 3 1 (fun _ => iN s.cnt)
  kB : w.rowIs (w0.heap.size + 9) 46 1 (fun _ => vk)
  sA : Own w gs vs 3 1 s.ns (fun i => iN (s.st i))
  kA : Own w gk vk 48 2 s.nk (KF s.kt s.kx)
  cA : Own w gc vc 29 1 s.nc CV
  rows : ∀ c, c < s.nc → ∃ b, w0.heap.size + 10 ≤ b ∧ gs ≠ some b ∧ gk ≠ some b ∧ gc ≠ some b ∧ Own w (some b) (CV c) 3 1 (s.cl c) (fun i => iN (s.cv c i))
  slo : ∀ b, gs = some b → w0.heap.size + 10 ≤ b
  klo : ∀ b, gk = some b → w0.heap.size + 10 ≤ b
  clo : ∀ b, gc = some b → w0.heap.size + 10 ≤ b
  sk : ∀ b, gs = some b → gk ≠ some b
  sc : ∀ b, gs = some b → gc ≠ some b
  kc : ∀ b, gk = some b → gc ≠ some b

section
variable {w0 w w' w2 : World} {n : Nat} {v0 : Value} {s : TS} {gs gk gc g' : Option Nat} {vs vk vc v' : Value} {CV : Nat → Value}

theorem TM.size (h : TM w0 n v0 s gs gk gc vs vk vc CV w) : w0.heap.size + 10 ≤ w.heap.size := by
  have := h.kB.lt; omega
theorem gb_grown {r : Option Nat} (h : TM w0 n v0 s gs gk gc vs vk vc CV w) (hg : w.grownBy w' r) (hr : ∀ b, r = some b → w0.heap.size < b) : w'.cell? ⟨w0.heap.size, 1, none⟩ = some v0 :=
  hg.cell h.gb (fun e => by have := hr _ e.symm; simp at this)

theorem TM.grow (h : TM w0 n v0 s gs gk gc vs vk vc CV w) (hg : w.grownBy w' none) : TM w0 n v0 s gs gk gc vs vk vc CV w' :=
  { below := below_grown h.below hg (Nat.le_refl _) (fun b e => by cases e)
    gb := gb_grown h hg (fun b e => by cases e)
    mB := rowIs_grown h.mB hg (by simp), mA := rowIs_grown h.mA hg (by simp), lB := rowIs_grown h.lB hg (by simp), lA := rowIs_grown h.lA hg (by simp)
    oB := rowIs_grown h.oB hg (by simp), oA := rowIs_grown h.oA hg (by simp), sB := rowIs_grown h.sB hg (by simp), cB := rowIs_grown h.cB hg (by simp), kB := rowIs_grown h.kB hg (by simp)
    sA := own_grown h.sA hg (fun b e => by simp), kA := own_grown h.kA hg (fun b e => by simp), cA := own_grown h.cA hg (fun b e => by simp)
    rows := fun c hc => by obtain ⟨b, h1, h2, h3, h4, h5⟩ := h.rows c hc; exact ⟨b, h1, h2, h3, h4, own_grown h5 hg (fun b e => by simp)⟩
    slo := h.slo, klo := h.klo, clo := h.clo, sk := h.sk, sc := h.sc, kc := h.kc }

/-- one of the low blocks is written -/
structure Low (w0 : World) (x : Nat) : Prop where
  lo : w0.heap.size < x
  hi : x < w0.heap.size + 10

theorem low_own {x : Nat} {g : Option Nat} {v : Value} {e : TypeId} {q m : Nat} {F : Nat → Value} (hx : Low w0 x) (hlo : ∀ b, g = some b → w0.heap.size + 10 ≤ b) (h : Own w g v e q m F) (hg : w.grownBy w' (some x)) : Own w' g v e q m F :=
  own_grown h hg (fun b e => by have := hlo b e; have := hx.hi; simp; omega)
theorem low_rows {x : Nat} (hx : Low w0 x) (h : TM w0 n v0 s gs gk gc vs vk vc CV w) (hg : w.grownBy w' (some x)) : ∀ c, c < s.nc → ∃ b, w0.heap.size + 10 ≤ b ∧ gs ≠ some b ∧ gk ≠ some b ∧ gc ≠ some b ∧ Own w' (some b) (CV c) 3 1 (s.cl c) (fun i => iN (s.cv c i)) := fun c hc => by
  obtain ⟨b, h1, h2, h3, h4, h5⟩ := h.rows c hc
  exact ⟨b, h1, h2, h3, h4, low_own hx (fun b' e => by cases e; exact h1) h5 hg⟩

theorem TM.setMet (h : TM w0 n v0 s gs gk gc vs vk vc CV w) (i x : Nat) : TM w0 n v0 { s with met := fset s.met i x } gs gk gc vs vk vc CV (w.setCell ⟨w0.heap.size + 1, i, none⟩ (iN x)) := by
  have hg := grown_set w (w0.heap.size + 1) i (iN x)
  have hx : Low w0 (w0.heap.size + 1) := ⟨by omega, by omega⟩
  exact
  { below := below_grown h.below hg (Nat.le_refl _) (fun b e => by cases e; omega)
    gb := gb_grown h hg (fun b e => by cases e; omega)
    mB := rowIs_grown h.mB hg (by simp), mA := (h.mA.set i (iN x)).congr (fun j hj => by simp only [fset]; split <;> rfl), lB := rowIs_grown h.lB hg (by simp), lA := rowIs_grown h.lA hg (by simp)
    oB := rowIs_grown h.oB hg (by simp), oA := rowIs_grown h.oA hg (by simp), sB := rowIs_grown h.sB hg (by simp), cB := rowIs_grown h.cB hg (by simp), kB := rowIs_grown h.kB hg (by simp)
    sA := low_own hx h.slo h.sA hg, kA := low_own hx h.klo h.kA hg, cA := low_own hx h.clo h.cA hg
    rows := by have r := low_rows hx h hg; exact r
    slo := h.slo, klo := h.klo, clo := h.clo, sk := h.sk, sc := h.sc, kc := h.kc }
theorem TM.setLow (h : TM w0 n v0 s gs gk gc vs vk vc CV w) (i x : Nat) : TM w0 n v0 { s with low := fset s.low i x } gs gk gc vs vk vc CV (w.setCell ⟨w0.heap.size + 3, i, none⟩ (iN x)) := by
  have hg := grown_set w (w0.heap.size + 3) i (iN x)
  have hx : Low w0 (w0.heap.size + 3) := ⟨by omega, by omega⟩
  exact
  { below := below_grown h.below hg (Nat.le_refl _) (fun b e => by cases e; omega)
    gb := gb_grown h hg (fun b e => by cases e; omega)
    mB := rowIs_grown h.mB hg (by simp), lA := (h.lA.set i (iN x)).congr (fun j hj => by simp only [fset]; split <;> rfl), lB := rowIs_grown h.lB hg (by simp), mA := rowIs_grown h.mA hg (by simp)
    oB := rowIs_grown h.oB hg (by simp), oA := rowIs_grown h.oA hg (by simp), sB := rowIs_grown h.sB hg (by simp), cB := rowIs_grown h.cB hg (by simp), kB := rowIs_grown h.kB hg (by simp)
    sA := low_own hx h.slo h.sA hg, kA := low_own hx h.klo h.kA hg, cA := low_own hx h.clo h.cA hg
    rows := by have r := low_rows hx h hg; exact r
    slo := h.slo, klo := h.klo, clo := h.clo, sk := h.sk, sc := h.sc, kc := h.kc }
theorem TM.setOp (h : TM w0 n v0 s gs gk gc vs vk vc CV w) (i : Nat) (x : Bool) : TM w0 n v0 { s with op := fset s.op i x } gs gk gc vs vk vc CV (w.setCell ⟨w0.heap.size + 5, i, none⟩ (.bool x)) := by
  have hg := grown_set w (w0.heap.size + 5) i (.bool x)
  have hx : Low w0 (w0.heap.size + 5) := ⟨by omega, by omega⟩
  exact
  { below := below_grown h.below hg (Nat.le_refl _) (fun b e => by cases e; omega)
    gb := gb_grown h hg (fun b e => by cases e; omega)
    mB := rowIs_grown h.mB hg (by simp), oA := (h.oA.set i (.bool x)).congr (fun j hj => by simp only [fset]; split <;> rfl), lB := rowIs_grown h.lB hg (by simp), mA := rowIs_grown h.mA hg (by simp)
    oB := rowIs_grown h.oB hg (by simp), lA := rowIs_grown h.lA hg (by simp), sB := rowIs_grown h.sB hg (by simp), cB := rowIs_grown h.cB hg (by simp), kB := rowIs_grown h.kB hg (by simp)
    sA := low_own hx h.slo h.sA hg, kA := low_own hx h.klo h.kA hg, cA := low_own hx h.clo h.cA hg
    rows := by have r := low_rows hx h hg; exact r
    slo := h.slo, klo := h.klo, clo := h.clo, sk := h.sk, sc := h.sc, kc := h.kc }
theorem TM.setCnt (h : TM w0 n v0 s gs gk gc vs vk vc CV w) (x : Nat) : TM w0 n v0 { s with cnt := x } gs gk gc vs vk vc CV (w.setCell ⟨w0.heap.size + 8, 0, none⟩ (iN x)) := by
  have hg := grown_set w (w0.heap.size + 8) 0 (iN x)
  have hx : Low w0 (w0.heap.size + 8) := ⟨by omega, by omega⟩
  exact
  { below := below_grown h.below hg (Nat.le_refl _) (fun b e => by cases e; omega)
    gb := gb_grown h hg (fun b e => by cases e; omega)
    mB := rowIs_grown h.mB hg (by simp), cB := (h.cB.set 0 (iN x)).congr (fun j hj => by rw [if_pos (by omega)]), lB := rowIs_grown h.lB hg (by simp), mA := rowIs_grown h.mA hg (by simp)
    oB := rowIs_grown h.oB hg (by simp), lA := rowIs_grown h.lA hg (by simp), sB := rowIs_grown h.sB hg (by simp), oA := rowIs_grown h.oA hg (by simp), kB := rowIs_grown h.kB hg (by simp)
    sA := low_own hx h.slo h.sA hg, kA := low_own hx h.klo h.kA hg, cA := low_own hx h.clo h.cA hg
    rows := by have r := low_rows hx h hg; exact r
    slo := h.slo, klo := h.klo, clo := h.clo, sk := h.sk, sc := h.sc, kc := h.kc }

/-- the stack's slice anew -/
theorem TM.setSt (h : TM w0 n v0 s gs gk gc vs vk vc CV w) (hg1 : w.grownBy w2 gs) {m : Nat} {f : Nat → Nat} (ho : Own w2 g' v' 3 1 m (fun i => iN (f i))) (hg' : ∀ b, g' = some b → gs = some b ∨ w.heap.size ≤ b) :
    TM w0 n v0 { s with ns := m, st := f } g' gk gc v' vk vc CV (w2.setCell ⟨w0.heap.size + 7, 0, none⟩ v') := by
  have hg := grown_set w2 (w0.heap.size + 7) 0 v'
  have hsz := h.size
  have R : ∀ {b t q F}, w.rowIs b t q F → b < w0.heap.size + 10 → w2.rowIs b t q F := fun hr hb => rowIs_grown hr hg1 (fun e => by have := h.slo _ e.symm; omega)
  have O : ∀ {g v e q m F}, Own w g v e q m F → (∀ b, g = some b → gs ≠ some b) → Own w2 g v e q m F := fun ho hn => own_grown ho hg1 (fun b e hh => hn b e hh.symm)
  have lt : ∀ {g v e q m F}, Own w g v e q m F → ∀ b, g = some b → b < w.heap.size := fun ho b e => by subst e; exact ho.lt
  have P : ∀ {g v e q m F}, Own w2 g v e q m F → (∀ b, g = some b → w0.heap.size + 10 ≤ b) → Own (w2.setCell ⟨w0.heap.size + 7, 0, none⟩ v') g v e q m F := fun ho hlo => own_grown ho hg (fun b e => by have := hlo b e; simp; omega)
  have slo' : ∀ b, g' = some b → w0.heap.size + 10 ≤ b := fun b e => by rcases hg' b e with g | g; exact h.slo b g; omega
  have nk : ∀ b, gk = some b → gs ≠ some b := fun b e1 e2 => h.sk b e2 e1
  have nc : ∀ b, gc = some b → gs ≠ some b := fun b e1 e2 => h.sc b e2 e1
  exact
  { below := below_grown (below_grown h.below hg1 (Nat.le_refl _) (fun b e => by have := h.slo b e; omega)) hg (Nat.le_refl _) (fun b e => by cases e; omega)
    gb := hg.cell (gb_grown h hg1 (fun b e => by have := h.slo b e; omega)) (by simp)
    mB := rowIs_grown (R h.mB (by omega)) hg (by simp), mA := rowIs_grown (R h.mA (by omega)) hg (by simp), lB := rowIs_grown (R h.lB (by omega)) hg (by simp), lA := rowIs_grown (R h.lA (by omega)) hg (by simp)
    oB := rowIs_grown (R h.oB (by omega)) hg (by simp), oA := rowIs_grown (R h.oA (by omega)) hg (by simp), cB := rowIs_grown (R h.cB (by omega)) hg (by simp), kB := rowIs_grown (R h.kB (by omega)) hg (by simp)
    sB := ((R h.sB (by omega)).set 0 v').congr (fun j hj => by rw [if_pos (by omega)])
    sA := P ho slo', kA := P (O h.kA nk) h.klo, cA := P (O h.cA nc) h.clo
    rows := fun c hc => by
      obtain ⟨b, h1, h2, h3, h4, h5⟩ := h.rows c hc
      refine ⟨b, h1, fun e => ?_, h3, h4, P (O h5 (fun b' e => by cases e; exact h2)) (fun b' e => by cases e; exact h1)⟩
      rcases hg' b e with g | g
      · exact h2 g
      · have := h5.lt; omega
    slo := slo', klo := h.klo, clo := h.clo
    sk := fun b e e2 => by rcases hg' b e with g | g; exact h.sk b g e2; have := lt h.kA b e2; omega
    sc := fun b e e2 => by rcases hg' b e with g | g; exact h.sc b g e2; have := lt h.cA b e2; omega
    kc := h.kc }

/-- the walk's slice anew -/
theorem TM.setK (h : TM w0 n v0 s gs gk gc vs vk vc CV w) (hg1 : w.grownBy w2 gk) {m : Nat} {f x : Nat → Nat} (ho : Own w2 g' v' 48 2 m (KF f x)) (hg' : ∀ b, g' = some b → gk = some b ∨ w.heap.size ≤ b) :
    TM w0 n v0 { s with nk := m, kt := f, kx := x } gs g' gc vs v' vc CV (w2.setCell ⟨w0.heap.size + 9, 0, none⟩ v') := by
  have hg := grown_set w2 (w0.heap.size + 9) 0 v'
  have hsz := h.size
  have R : ∀ {b t q F}, w.rowIs b t q F → b < w0.heap.size + 10 → w2.rowIs b t q F := fun hr hb => rowIs_grown hr hg1 (fun e => by have := h.klo _ e.symm; omega)
  have O : ∀ {g v e q m F}, Own w g v e q m F → (∀ b, g = some b → gk ≠ some b) → Own w2 g v e q m F := fun ho hn => own_grown ho hg1 (fun b e hh => hn b e hh.symm)
  have lt : ∀ {g v e q m F}, Own w g v e q m F → ∀ b, g = some b → b < w.heap.size := fun ho b e => by subst e; exact ho.lt
  have P : ∀ {g v e q m F}, Own w2 g v e q m F → (∀ b, g = some b → w0.heap.size + 10 ≤ b) → Own (w2.setCell ⟨w0.heap.size + 9, 0, none⟩ v') g v e q m F := fun ho hlo => own_grown ho hg (fun b e => by have := hlo b e; simp; omega)
  have klo' : ∀ b, g' = some b → w0.heap.size + 10 ≤ b := fun b e => by rcases hg' b e with g | g; exact h.klo b g; omega
  have nc : ∀ b, gc = some b → gk ≠ some b := fun b e1 e2 => h.kc b e2 e1
  exact
  { below := below_grown (below_grown h.below hg1 (Nat.le_refl _) (fun b e => by have := h.klo b e; omega)) hg (Nat.le_refl _) (fun b e => by cases e; omega)
    gb := hg.cell (gb_grown h hg1 (fun b e => by have := h.klo b e; omega)) (by simp)
    mB := rowIs_grown (R h.mB (by omega)) hg (by simp), mA := rowIs_grown (R h.mA (by omega)) hg (by simp), lB := rowIs_grown (R h.lB (by omega)) hg (by simp), lA := rowIs_grown (R h.lA (by omega)) hg (by simp)
    oB := rowIs_grown (R h.oB (by omega)) hg (by simp), oA := rowIs_grown (R h.oA (by omega)) hg (by simp), cB := rowIs_grown (R h.cB (by omega)) hg (by simp), sB := rowIs_grown (R h.sB (by omega)) hg (by simp)
    kB := ((R h.kB (by omega)).set 0 v').congr (fun j hj => by rw [if_pos (by omega)])
    sA := P (O h.sA h.sk) h.slo, kA := P ho klo', cA := P (O h.cA nc) h.clo
    rows := fun c hc => by
      obtain ⟨b, h1, h2, h3, h4, h5⟩ := h.rows c hc
      refine ⟨b, h1, h2, fun e => ?_, h4, P (O h5 (fun b' e => by cases e; exact h3)) (fun b' e => by cases e; exact h1)⟩
      rcases hg' b e with g | g
      · exact h3 g
      · have := h5.lt; omega
    slo := h.slo, klo := klo', clo := h.clo
    sk := fun b e e2 => by rcases hg' b e2 with g | g; exact h.sk b e g; have := lt h.sA b e; omega
    sc := h.sc
    kc := fun b e e2 => by rcases hg' b e with g | g; exact h.kc b g e2; have := lt h.cA b e2; omega }

/-- the walk's rows, written in place -/
theorem TM.inK (h : TM w0 n v0 s gs gk gc vs vk vc CV w) (hg1 : w.grownBy w2 gk) {f x : Nat → Nat} (ho : Own w2 gk vk 48 2 s.nk (KF f x)) :
    TM w0 n v0 { s with kt := f, kx := x } gs gk gc vs vk vc CV w2 := by
  have R : ∀ {b t q F}, w.rowIs b t q F → b < w0.heap.size + 10 → w2.rowIs b t q F := fun hr hb => rowIs_grown hr hg1 (fun e => by have := h.klo _ e.symm; omega)
  have O : ∀ {g v e q m F}, Own w g v e q m F → (∀ b, g = some b → gk ≠ some b) → Own w2 g v e q m F := fun ho hn => own_grown ho hg1 (fun b e hh => hn b e hh.symm)
  have nc : ∀ b, gc = some b → gk ≠ some b := fun b e1 e2 => h.kc b e2 e1
  exact
  { below := below_grown h.below hg1 (Nat.le_refl _) (fun b e => by have := h.klo b e; omega)
    gb := gb_grown h hg1 (fun b e => by have := h.klo b e; omega)
    mB := R h.mB (by omega), mA := R h.mA (by omega), lB := R h.lB (by omega), lA := R h.lA (by omega)
    oB := R h.oB (by omega), oA := R h.oA (by omega), cB := R h.cB (by omega), sB := R h.sB (by omega)
    kB := R h.kB (by omega)
    sA := O h.sA h.sk, kA := ho, cA := O h.cA nc
    rows := fun c hc => by
      obtain ⟨b, h1, h2, h3, h4, h5⟩ := h.rows c hc
      exact ⟨b, h1, h2, h3, h4, O h5 (fun b' e => by cases e; exact h3)⟩
    slo := h.slo, klo := h.klo, clo := h.clo, sk := h.sk, sc := h.sc, kc := h.kc }

/-- one component more -/
theorem TM.addC (h : TM w0 n v0 s gs gk gc vs vk vc CV w) (hg1 : w.grownBy w2 gc) {gr : Nat} {vr : Value} {m : Nat} {f : Nat → Nat} (hr : Own w (some gr) vr 3 1 m (fun i => iN (f i))) (hr1 : w0.heap.size + 10 ≤ gr) (hr2 : gs ≠ some gr) (hr3 : gk ≠ some gr) (hr4 : gc ≠ some gr)
    (ho : Own w2 g' v' 29 1 (s.nc + 1) (fun i => if i < s.nc then CV i else vr)) (hg' : ∀ b, g' = some b → gc = some b ∨ w.heap.size ≤ b) :
    TM w0 n v0 { s with nc := s.nc + 1, cl := fset s.cl s.nc m, cv := fset s.cv s.nc f } gs gk g' vs vk v' (fun i => if i < s.nc then CV i else vr) w2 := by
  have hsz := h.size
  have R : ∀ {b t q F}, w.rowIs b t q F → b < w0.heap.size + 10 → w2.rowIs b t q F := fun hr hb => rowIs_grown hr hg1 (fun e => by have := h.clo _ e.symm; omega)
  have O : ∀ {g v e q m F}, Own w g v e q m F → (∀ b, g = some b → gc ≠ some b) → Own w2 g v e q m F := fun ho hn => own_grown ho hg1 (fun b e hh => hn b e hh.symm)
  have lt : ∀ {g v e q m F}, Own w g v e q m F → ∀ b, g = some b → b < w.heap.size := fun ho b e => by subst e; exact ho.lt
  exact
  { below := below_grown h.below hg1 (Nat.le_refl _) (fun b e => by have := h.clo b e; omega)
    gb := gb_grown h hg1 (fun b e => by have := h.clo b e; omega)
    mB := R h.mB (by omega), mA := R h.mA (by omega), lB := R h.lB (by omega), lA := R h.lA (by omega)
    oB := R h.oB (by omega), oA := R h.oA (by omega), cB := R h.cB (by omega), sB := R h.sB (by omega)
    kB := R h.kB (by omega)
    sA := O h.sA h.sc, kA := O h.kA h.kc, cA := ho
    rows := fun c hc => by
      simp only at hc ⊢
      by_cases hcn : c = s.nc
      · subst hcn
        refine ⟨gr, hr1, hr2, hr3, fun e => ?_, ?_⟩
        · rcases hg' gr e with g | g
          · exact hr4 g
          · have := hr.lt; omega
        · rw [if_neg (by omega), fset_at, fset_at]; exact O hr (fun b' e => by cases e; exact hr4)
      · obtain ⟨b, h1, h2, h3, h4, h5⟩ := h.rows c (by omega)
        refine ⟨b, h1, h2, h3, fun e => ?_, ?_⟩
        · rcases hg' b e with g | g
          · exact h4 g
          · have := h5.lt; omega
        · rw [if_pos (by omega), fset_ne _ _ hcn, fset_ne _ _ hcn]; exact O h5 (fun b' e => by cases e; exact h4)
    slo := h.slo, klo := h.klo, clo := fun b e => by rcases hg' b e with g | g; exact h.clo b g; omega
    sk := h.sk
    sc := fun b e e2 => by rcases hg' b e2 with g | g; exact h.sc b e g; have := lt h.sA b e; omega
    kc := fun b e e2 => by rcases hg' b e2 with g | g; exact h.kc b e g; have := lt h.kA b e; omega }
end
end Go.Proofs.Qxb6603705a
