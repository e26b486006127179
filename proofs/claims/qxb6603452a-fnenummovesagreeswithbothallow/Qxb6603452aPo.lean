import Derived.Test.Qxb6603452aSa
import Derived.Test.Qxb6603452aChecked
import Derived.Test.Qxb6603452aRows
import Derived.ProofKit
import Derived.OpenShut
import Derived.Deep.Strs
import Derived.Carry
import Derived.Below
set_option linter.unusedVariables false
set_option linter.unusedSimpArgs false
namespace Go.Proofs.Qxb6603452a
open Go Go.Vc Go.RowKit Go.ChangeShapes Go.WideShapes Go.ChangeAt

theorem own452 : ownKnob Try.prog.godebug = none := by kernel_rfl
theorem laid452 : laidOutB Try.prog = true := by kernel_rfl

theorem spot_of_cell {w : World} {a : Addr} {v : Value} (h : w.cell? a = some v) : a = ⟨a.block, a.off, none⟩ := by
  obtain ⟨b, o, s⟩ := a
  cases s with
  | none => rfl
  | some x =>
    exfalso
    simp only [World.cell?] at h
    split at h <;> simp at h

variable {H : Type} {enc : TypeId × Value → H}

theorem open_s {W : World} {v : Value} {d : DataW H} {p : List MemPlace} (hok : ∃ a l c, v = .slice a l c) (h : DataW.Trod enc Try.prog W 0 (fun _ => true) true 22 v d p) :
    ∃ a n c s, v = .slice a n c ∧ Sl W a n s := by
  obtain ⟨a, l, c, rfl⟩ := hok
  obtain ⟨fuel, hf⟩ := h
  rcases Deep.open_strs Try.underlying22 Try.underlying9 (by kernel_rfl) hf with ⟨hcs, _⟩ | ⟨x, l', c', m, Sx, hcs, _, hl, hm, hmm, _, hcell⟩
  · simp [Value.cells] at hcs
    obtain ⟨rfl, rfl, rfl⟩ := hcs
    exact ⟨none, 0, 0, fun _ => ByteArray.empty, rfl, fun h => absurd h (by omega)⟩
  · simp [Value.cells] at hcs
    obtain ⟨rfl, rfl, rfl⟩ := hcs
    have hc : ∀ i, i < l → W.cell? (x.add i) = some (.string (Sx i)) := fun i hi => (hcell i (by simp at hmm; omega)).1
    refine ⟨some x, l, c, Sx, rfl, fun hp => ?_⟩
    have h0 := spot_of_cell (hc 0 hp)
    have e : x = ⟨x.block, x.off, none⟩ := by
      obtain ⟨b, o, s⟩ := x
      simp [Addr.add] at h0 ⊢
      exact h0
    refine ⟨x.block, x.off, by rw [← e], fun i hi => ?_⟩
    have := hc i hi
    rw [e, Addr.add_lit] at this
    exact this
end Go.Proofs.Qxb6603452a
