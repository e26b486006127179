import Derived.Test.Qxb6603720aL4
import Derived.Test.Qxb6603720aChecked
import Derived.Test.Qxb6603720aRows
import Derived.ProofKit
import Derived.OpenShut
import Derived.Deep.Matrix
import Derived.Carry
import Derived.Below
set_option linter.unusedVariables false
set_option linter.unusedSimpArgs false
namespace Go.Proofs.Qxb6603720a
open Go Go.Vc Go.RowKit Go.ChangeShapes Go.WideShapes Go.ChangeAt

theorem own720' : ownKnob Try.prog.godebug = none := by kernel_rfl
theorem laid720' : laidOutB Try.prog = true := by kernel_rfl

theorem spot_of_cell' {w : World} {a : Addr} {v : Value} (h : w.cell? a = some v) : a = ⟨a.block, a.off, none⟩ := by
  obtain ⟨b, o, s⟩ := a
  cases s with
  | none => rfl
  | some x =>
    exfalso
    simp only [World.cell?] at h
    split at h <;> simp at h
theorem rd_of_cells' {w : World} {a : Addr} {len cap : Nat} {X : Nat → Value} (hl : len ≤ cap) (h : ∀ i, i < len → w.cell? (a.add i) = some (X i)) : Rd w (.slice (some a) len cap) len X := by
  refine ⟨some a, cap, rfl, hl, fun hp => ?_⟩
  have h0 := spot_of_cell' (h 0 hp)
  have e : a = ⟨a.block, a.off, none⟩ := by
    obtain ⟨b, o, s⟩ := a
    simp [Addr.add] at h0 ⊢
    exact h0
  refine ⟨a.block, a.off, by rw [← e], fun i hi => ?_⟩
  have := h i hi
  rw [e, Addr.add_lit] at this
  exact this
variable {H : Type} {enc : TypeId × Value → H}
theorem open_m {W : World} {v : Value} {d : DataW H} {p : List MemPlace} (hok : ∃ a l c, v = .slice a l c) (h : DataW.Trod enc Try.prog W 0 (fun _ => true) true 22 v d p) :
    ∃ n L C V, Mat W v n L C V := by
  obtain ⟨a, l, c, rfl⟩ := hok
  obtain ⟨fuel, hf⟩ := h
  rcases Deep.open_int_rows Try.underlying22 Try.underlying24 Try.underlying21 (by kernel_rfl) (by kernel_rfl) hf with ⟨hcs, _⟩ | ⟨x, l', c', A, L, C, Z, hcs, _, hl, hm, _, hcell⟩
  · simp [Value.cells] at hcs
    obtain ⟨rfl, rfl, rfl⟩ := hcs
    exact ⟨0, fun _ => 0, fun _ _ => 0, fun _ => .slice none 0 0, ⟨none, 0, rfl, Nat.le_refl _, fun h => absurd h (by omega)⟩, fun r hr => absurd hr (by omega)⟩
  · simp [Value.cells] at hcs
    obtain ⟨rfl, rfl, rfl⟩ := hcs
    refine ⟨l, L, fun r i => (Z r).getD i 0, fun r => .slice (A r) (L r) (C r), rd_of_cells' hl (fun i hi => (hcell i (by omega)).1), fun r hr => ?_⟩
    obtain ⟨h1, h2, h3, h4, h5, h6, h7⟩ := hcell r (by omega)
    cases hA : A r with
    | none => exact ⟨none, C r, rfl, h2, fun h => absurd h (by have := h6 hA; omega)⟩
    | some a' => exact rd_of_cells' h2 (fun i hi => (h7 a' hA).2 i (by omega))
end Go.Proofs.Qxb6603720a
