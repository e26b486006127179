import Derived.Test.Qxb6603720aGa
set_option linter.unusedVariables false
set_option linter.unusedSimpArgs false
namespace Go.Proofs.Qxb6603720a
open Go Go.Vc Go.RowKit Go.Gr

theorem below_keep' {w0 w : World} (hb : Below w0.heap.size w0 w) (a : Addr) (u : Value) (h : w0.cell? a = some u) : w.cell? a = some u :=
  (hb.cell (World.block_lt_of_cell? _ _ h)).trans h
theorem below_grown {w0 w w' : World} {r : Option Nat} (hb : Below w0.heap.size w0 w) (hg : w.grownBy w' r) (hr : ∀ b, r = some b → w0.heap.size ≤ b) : Below w0.heap.size w0 w' :=
  hb.trans (grown_below hg hb.size hr)

/-- the group that is being gathered, the largest so far, what has been seen -/
structure GM (w0 : World) (n : Nat) (se : Nat → Bool) (vg vl : Value) (gg gl : Option Nat) (ng ml : Nat) (D lp : Nat → Nat) (w : World) : Prop where
  below : Below w0.heap.size w0 w
  seen : w.rowIs w0.heap.size 4 n (fun i => .bool (se i))
  grp : Own w gg vg 3 1 ng (fun i => iN (D i))
  lar : Own w gl vl 3 1 ml (fun i => iN (lp i))
  glo : ∀ b, gg = some b → w0.heap.size < b
  llo : ∀ b, gl = some b → w0.heap.size < b
  ne : ∀ b, gg = some b → gl ≠ some b

section
variable {w0 w w2 : World} {n ng ml : Nat} {se : Nat → Bool} {vg vl vg' : Value} {gg gl gg' : Option Nat} {D lp D' : Nat → Nat}
theorem GM.setSeen (h : GM w0 n se vg vl gg gl ng ml D lp w) (u : Nat) (b : Bool) : GM w0 n (fset se u b) vg vl gg gl ng ml D lp (w.setCell ⟨w0.heap.size, u, none⟩ (.bool b)) := by
  have hg := grown_set w w0.heap.size u (.bool b)
  exact ⟨below_grown h.below hg (fun b e => by cases e; exact Nat.le_refl _), (h.seen.set u (.bool b)).congr (fun j hj => by simp only [fset]; split <;> rfl),
    own_grown h.grp hg (fun b e => by have := h.glo b e; simp; omega), own_grown h.lar hg (fun b e => by have := h.llo b e; simp; omega), h.glo, h.llo, h.ne⟩
theorem GM.setGrp {m : Nat} (h : GM w0 n se vg vl gg gl ng ml D lp w) (hg : w.grownBy w2 gg) (ho : Own w2 gg' vg' 3 1 m (fun i => iN (D' i))) (hgg : ∀ b, gg' = some b → gg = some b ∨ w.heap.size ≤ b) : GM w0 n se vg' vl gg' gl m ml D' lp w2 := by
  have hlt := h.seen.lt
  refine ⟨below_grown h.below hg (fun b e => by have := h.glo b e; omega), rowIs_grown h.seen hg (fun e => by have := h.glo _ e.symm; omega), ho,
    own_grown h.lar hg (fun b e e2 => h.ne b e2.symm e), fun b e => ?_, h.llo, fun b e e2 => ?_⟩
  · rcases hgg b e with g | g
    · exact h.glo b g
    · omega
  · rcases hgg b e with g | g
    · exact h.ne b g e2
    · have := h.lar; rw [e2] at this; have := this.lt; omega
theorem GM.setLar {m : Nat} {g : Nat} {lp' : Nat → Nat} {vl' : Value} (h : GM w0 n se vg vl gg gl ng ml D lp w) (hg : w.grownBy w2 none) (ho : Own w2 (some g) vl' 3 1 m (fun i => iN (lp' i))) (hgl : w.heap.size ≤ g) : GM w0 n se vg vl' gg (some g) ng m D lp' w2 := by
  have hlt := h.seen.lt
  refine ⟨below_grown h.below hg (fun b e => by cases e), rowIs_grown h.seen hg (by simp), own_grown h.grp hg (fun b e => by simp), ho, h.glo, fun b e => by cases e; omega, fun b e e2 => ?_⟩
  cases e2
  have := h.grp; rw [e] at this; have := this.lt; omega
end
end Go.Proofs.Qxb6603720a
