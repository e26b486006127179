import Derived.Test.Qxb6603720aL4
import Derived.Test.Qxb6603720aLm
import Derived.Test.Qxb6603720aLe
import Derived.Lib.JoinLaws
set_option linter.unusedVariables false
set_option linter.unusedSimpArgs false
namespace Go.Gr
/-- how many of the first n bear another mark than t -/
def um : Nat → (Nat → Int) → Int → Nat
  | 0, _, _ => 0
  | n + 1, mk, t => um n mk t + if mk n = t then 0 else 1
theorem um_congr : ∀ (n : Nat) (mk mk' : Nat → Int) (t : Int), (∀ v, v < n → mk v = mk' v) → um n mk t = um n mk' t
  | 0, _, _, _, _ => rfl
  | n + 1, mk, mk', t, h => by
    simp only [um]
    rw [um_congr n mk mk' t (fun v hv => h v (by omega)), h n (by omega)]
theorem um_set : ∀ (n : Nat) (mk : Nat → Int) (t : Int) (v : Nat), v < n → mk v ≠ t → um n (fset mk v t) t + 1 = um n mk t
  | 0, _, _, _, h, _ => by omega
  | n + 1, mk, t, v, hv, hne => by
    simp only [um]
    by_cases e : v = n
    · subst e
      rw [fset_at, if_pos rfl, if_neg hne, um_congr v (fset mk v t) mk t (fun x hx => fset_ne _ _ (by omega))]
    · rw [fset_ne _ _ (show n ≠ v by omega)]
      have := um_set n mk t v (by omega) hne
      omega
theorem um_le : ∀ (n : Nat) (mk : Nat → Int) (t : Int), um n mk t ≤ n
  | 0, _, _ => Nat.le_refl _
  | n + 1, mk, t => by
    simp only [um]
    have := um_le n mk t
    split <;> omega
end Go.Gr
namespace Go.Vc
open Go Go.RowKit
section
variable {P : Program} {ds : List (Option Nat)} {K : Env → World → Prop} {os : List Oper} {ρ : Env} {w : World} {d : Option Nat} {ty : TypeId} {pos : String} {aft : Array Edge}
theorem vc_room {t e : TypeId} {bytes : Nat} {z : Value} (he : Elem P t e 1 bytes z) (hz : atomB z = true) {lo co : Operand} {kl kc : IntKind} (m : Nat) (hl : ev ρ lo = .int kl 0) (hc : ev ρ co = .int kc (m : Int))
    (hb : bytes * m ≤ 281474976710656) (h63 : m ≤ 9223372036854775807)
    (h : ∀ w' F, Own w' (some w.heap.size) (.slice (some ⟨w.heap.size, 0, none⟩) 0 m) e 1 0 F → w.grownBy w' none → w'.heap.size = w.heap.size + 1 → vc P ds K os (put ρ d (.slice (some ⟨w.heap.size, 0, none⟩) 0 m)) w') :
    vc P ds K (⟨d, .makeSlice t lo co, ty, pos, aft, none⟩ :: os) ρ w := by
  have hz1 : z.cells = #[z] := by cases z <;> first | rfl | simp [atomB] at hz
  have hrun := run_make_room (P := P) t e z bytes he.und he.inf hz1 kl kc m hb h63 w
  simp only [vc, gok, if_true, opF]
  simp only [opW, execOp, hl, hc, Sem.run_bind, hrun, Result.andThen_ok, Sem.run_pure]
  exact h _ (fun _ => z) ⟨0, m, m, _, rfl, by omega, by omega, World.rowIs_made _ _ _ _, fun i hi => absurd hi (by omega)⟩ (grown_alloc _ _ _) (by simp)
end
end Go.Vc
namespace Go.Proofs.Qxb6603720a
open Go Go.Vc Go.RowKit Go.Gr

/-- the model's memory: what is covered, the marks, the stack, the best group, the group in hand -/
structure MM (w0 : World) (n : Nat) (cov : Nat → Bool) (mk : Nat → Int) (vs : Value) (gs : Option Nat) (ns : Nat) (st : Nat → Nat) (vb : Value) (gb : Option Nat) (l : List Nat) (vg : Value) (gg : Option Nat) (g : List Nat) (w : World) : Prop where
  below : Below w0.heap.size w0 w
  cov : w.rowIs w0.heap.size 4 n (fun i => .bool (cov i))
  mark : w.rowIs (w0.heap.size + 1) 3 n (fun i => .int .i64 (mk i))
  stk : Own w gs vs 3 1 ns (fun i => iN (st i))
  bst : Own w gb vb 3 1 l.length (fun i => iN (l.getD i 0))
  grp : Own w gg vg 3 1 g.length (fun i => iN (g.getD i 0))
  slo : ∀ b, gs = some b → w0.heap.size + 1 < b
  blo : ∀ b, gb = some b → w0.heap.size + 1 < b
  glo : ∀ b, gg = some b → w0.heap.size + 1 < b
  sb : ∀ b, gs = some b → gb ≠ some b
  sg : ∀ b, gs = some b → gg ≠ some b
  bg : ∀ b, gb = some b → gg ≠ some b

section
variable {w0 w w2 : World} {n ns : Nat} {cov : Nat → Bool} {mk : Nat → Int} {vs vb vg vs' vg' : Value} {gs gb gg gs' gg' : Option Nat} {st st' : Nat → Nat} {l g : List Nat}
theorem own_lt' {w : World} {o : Option Nat} {v : Value} {e : TypeId} {s n : Nat} {F : Nat → Value} (h : Own w o v e s n F) : ∀ b, o = some b → b < w.heap.size := fun b hb => by subst hb; exact h.lt
theorem MM.setCov (h : MM w0 n cov mk vs gs ns st vb gb l vg gg g w) (u : Nat) (b : Bool) : MM w0 n (fset cov u b) mk vs gs ns st vb gb l vg gg g (w.setCell ⟨w0.heap.size, u, none⟩ (.bool b)) := by
  have hg := grown_set w w0.heap.size u (.bool b)
  exact ⟨below_grown h.below hg (fun b e => by cases e; exact Nat.le_refl _), (h.cov.set u (.bool b)).congr (fun j hj => by simp only [fset]; split <;> rfl), rowIs_grown h.mark hg (by simp),
    own_grown h.stk hg (fun b e => by have := h.slo b e; simp; omega), own_grown h.bst hg (fun b e => by have := h.blo b e; simp; omega), own_grown h.grp hg (fun b e => by have := h.glo b e; simp; omega), h.slo, h.blo, h.glo, h.sb, h.sg, h.bg⟩
theorem MM.setMark (h : MM w0 n cov mk vs gs ns st vb gb l vg gg g w) (u : Nat) (z : Int) : MM w0 n cov (fset mk u z) vs gs ns st vb gb l vg gg g (w.setCell ⟨w0.heap.size + 1, u, none⟩ (.int .i64 z)) := by
  have hg := grown_set w (w0.heap.size + 1) u (.int .i64 z)
  exact ⟨below_grown h.below hg (fun b e => by cases e; omega), rowIs_grown h.cov hg (by simp), (h.mark.set u (.int .i64 z)).congr (fun j hj => by simp only [fset]; split <;> rfl),
    own_grown h.stk hg (fun b e => by have := h.slo b e; simp; omega), own_grown h.bst hg (fun b e => by have := h.blo b e; simp; omega), own_grown h.grp hg (fun b e => by have := h.glo b e; simp; omega), h.slo, h.blo, h.glo, h.sb, h.sg, h.bg⟩
theorem MM.setStk {m : Nat} (h : MM w0 n cov mk vs gs ns st vb gb l vg gg g w) (hg : w.grownBy w2 gs) (ho : Own w2 gs' vs' 3 1 m (fun i => iN (st' i))) (hgg : ∀ b, gs' = some b → gs = some b ∨ w.heap.size ≤ b) : MM w0 n cov mk vs' gs' m st' vb gb l vg gg g w2 := by
  have hlt := h.mark.lt
  refine ⟨below_grown h.below hg (fun b e => by have := h.slo b e; omega), rowIs_grown h.cov hg (fun e => by have := h.slo _ e.symm; omega), rowIs_grown h.mark hg (fun e => by have := h.slo _ e.symm; omega), ho,
    own_grown h.bst hg (fun b e e2 => h.sb b e2.symm e), own_grown h.grp hg (fun b e e2 => h.sg b e2.symm e), fun b e => ?_, h.blo, h.glo, fun b e e2 => ?_, fun b e e2 => ?_, h.bg⟩
  · rcases hgg b e with k | k
    · exact h.slo b k
    · omega
  · rcases hgg b e with k | k
    · exact h.sb b k e2
    · have := own_lt' h.bst b e2; omega
  · rcases hgg b e with k | k
    · exact h.sg b k e2
    · have := own_lt' h.grp b e2; omega
theorem MM.setGrp {g' : List Nat} (h : MM w0 n cov mk vs gs ns st vb gb l vg gg g w) (hg : w.grownBy w2 gg) (ho : Own w2 gg' vg' 3 1 g'.length (fun i => iN (g'.getD i 0))) (hgg : ∀ b, gg' = some b → gg = some b ∨ w.heap.size ≤ b) : MM w0 n cov mk vs gs ns st vb gb l vg' gg' g' w2 := by
  have hlt := h.mark.lt
  refine ⟨below_grown h.below hg (fun b e => by have := h.glo b e; omega), rowIs_grown h.cov hg (fun e => by have := h.glo _ e.symm; omega), rowIs_grown h.mark hg (fun e => by have := h.glo _ e.symm; omega),
    own_grown h.stk hg (fun b e e2 => h.sg b e e2.symm), own_grown h.bst hg (fun b e e2 => h.bg b e e2.symm), ho, h.slo, h.blo, fun b e => ?_, h.sb, fun b e e2 => ?_, fun b e e2 => ?_⟩
  · rcases hgg b e with k | k
    · exact h.glo b k
    · omega
  · rcases hgg b e2 with k | k
    · exact h.sg b e k
    · have := own_lt' h.stk b e; omega
  · rcases hgg b e2 with k | k
    · exact h.bg b e k
    · have := own_lt' h.bst b e; omega
theorem MM.drop (h : MM w0 n cov mk vs gs ns st vb gb l vg gg g w) : MM w0 n cov mk vs gs ns st vb gb l (.slice none 0 0) none [] w :=
  ⟨h.below, h.cov, h.mark, h.stk, h.bst, ⟨rfl, rfl⟩, h.slo, h.blo, (fun b e => by cases e), h.sb, (fun b e => by simp), (fun b e => by simp)⟩
theorem MM.take (h : MM w0 n cov mk vs gs ns st vb gb l vg gg g w) : MM w0 n cov mk vs gs ns st vg gg g (.slice none 0 0) none [] w :=
  ⟨h.below, h.cov, h.mark, h.stk, h.grp, ⟨rfl, rfl⟩, h.slo, h.glo, (fun b e => by cases e), h.sg, (fun b e => by simp), (fun b e => by simp)⟩
end
end Go.Proofs.Qxb6603720a
