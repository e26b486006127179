import Derived.Test.Qxb6603720aLc
import Derived.Test.Qxb6603720aChecked
import Derived.Test.Qxb6603720aRows
import Derived.ProofKit
import Derived.OpenShut
import Derived.Deep.Strs
import Derived.Carry
import Derived.Below
set_option linter.unusedVariables false
set_option linter.unusedSimpArgs false
namespace Go.Proofs.Qxb6603720a.centreLaw
open Go Go.Vc Go.RowKit Go.ChangeShapes Go.WideShapes Go.ChangeAt

theorem own720 : ownKnob Try.prog.godebug = none := by kernel_rfl
theorem laid720 : laidOutB Try.prog = true := by kernel_rfl

theorem spot_of_cell {w : World} {a : Addr} {v : Value} (h : w.cell? a = some v) : a = ⟨a.block, a.off, none⟩ := by
  obtain ⟨b, o, s⟩ := a
  cases s with
  | none => rfl
  | some x =>
    exfalso
    simp only [World.cell?] at h
    split at h <;> simp at h
theorem rd_of_cells {w : World} {a : Addr} {len cap : Nat} {X : Nat → Value} (hl : len ≤ cap) (h : ∀ i, i < len → w.cell? (a.add i) = some (X i)) : Rd w (.slice (some a) len cap) len X := by
  refine ⟨some a, cap, rfl, hl, fun hp => ?_⟩
  have h0 := spot_of_cell (h 0 hp)
  have e : a = ⟨a.block, a.off, none⟩ := by
    obtain ⟨b, o, s⟩ := a
    simp [Addr.add] at h0 ⊢
    exact h0
  refine ⟨a.block, a.off, by rw [← e], fun i hi => ?_⟩
  have := h i hi
  rw [e, Addr.add_lit] at this
  exact this

section
variable {H : Type} {enc : TypeId × Value → H}
theorem trod_flt {W : World} {spare : Nat → Bool} {n : Nat} {v : Value} {x : DataW H × List MemPlace} (h : DataW.trod enc Try.prog W 0 spare true n 29 [v] = some x) : ∃ b, v = .float .f64 b := by
  cases n with
  | zero => simp [DataW.trod] at h
  | succ n =>
    unfold DataW.trod at h
    rw [Try.underlying29] at h
    split at h <;> simp_all
theorem open_f {W : World} {v : Value} {d : DataW H} {p : List MemPlace} (hok : ∃ a l c, v = .slice a l c) (h : DataW.Trod enc Try.prog W 0 (fun _ => true) true 27 v d p) :
    ∃ (n : Nat) (F : Nat → Nat), Rd W v n (fun i => .float .f64 (F i)) := by
  obtain ⟨a, l, c, rfl⟩ := hok
  obtain ⟨fuel, hf⟩ := h
  rcases Deep.open_slice1 Try.underlying27 (by kernel_rfl) hf with ⟨hcs, _⟩ | ⟨x, l', c', m, n, V, D, Pl, hcs, _, hl, hm, hmm, _, hcell⟩
  · simp [Value.cells] at hcs
    obtain ⟨rfl, rfl, rfl⟩ := hcs
    exact ⟨0, fun _ => 0, none, 0, rfl, Nat.le_refl _, fun h => absurd h (by omega)⟩
  · simp [Value.cells] at hcs
    obtain ⟨rfl, rfl, rfl⟩ := hcs
    simp at hmm
    subst hmm
    refine ⟨l, fun i => match V i with | .float _ b => b | _ => 0, rd_of_cells hl (fun i hi => ?_)⟩
    obtain ⟨h1, h2⟩ := hcell i (by omega)
    obtain ⟨b, hb⟩ := trod_flt h2
    rw [h1, hb]
    simp only [hb]
end

set_option maxRecDepth 100000 in
theorem lifted (os : Os) (started : os.Started) (H : Type) (enc : TypeId × Value → H) :
    ReturnsInHanded {} Try.checked os 5 .any (Rows.fnCentreIntegerVectorExactSpec.pre6 enc Try.prog Try.f5 Rows.fnCentreIntegerVectorExactRow.domain false) (Rows.fnCentreIntegerVectorExactSpec.post enc Try.prog Try.f5 false true false false) := by
  refine returnsInHanded_of_change (C := Try.checked) own720 started (by kernel_rfl) Try.func5
    (ChangeSpec.witness6 (enc := enc) (C := Try.checked) false ⟨#[], #[.slice none 0 0], []⟩ 8 (by kernel_rfl) (by kernel_rfl) (by kernel_rfl) (by kernel_rfl)) ?_
  intro W base args ds gs before hval0 hW hcnd _
  have hval : ∀ (j : Nat) t v, Try.f5.params[j]? = some t → args[j]? = some v → Value.okWide Try.prog W .any base t v := hval0
  have hW' := hW
  obtain ⟨p, q, hA0, hV, rfl, hfz, hnd⟩ := hW
  have hA : DataW.TrodAll enc Try.prog W 0 (fun _ => true) true Try.f5.params.toList args.toList ds p := hA0
  rw [Try.params5] at hA hval
  obtain ⟨v0, d0, rfl, rfl, h0⟩ := trodAll_one hA
  obtain ⟨rfl, rfl⟩ := trodVars_none hV
  have lt0 : ∀ x ∈ p, x.block < W.heap.size := by obtain ⟨m, hm⟩ := h0; exact DataW.trod_lt m _ _ _ hm
  obtain ⟨n, F, hrd⟩ := open_f (okWide_slice Try.underlying27 (hval 0 27 v0 rfl rfl)) h0
  clear hA0 hval0
  refine (law_any hrd).mono fun e W' ⟨he, bel⟩ => ?_
  subst he
  exact ⟨_, rfl, _, _, _, [], _, [], hW', trodAll_mk1 (shut_bool Try.underlying4 _), trodAll_mk1 (Below.trod laid720 (by kernel_rfl) (of_decide_eq_true (by kernel_rfl)) h0 bel lt0), rfl, bel.frame _, fun h => by cases h⟩

theorem over : Rows.fnCentreIntegerVectorExactRow.holds Try.pinned (OpenSpec.ofChange Rows.fnCentreIntegerVectorExactSpec) :=
  OpenClaim.holds_of_wide 5 Try.f5 rfl rfl rfl rfl rfl rfl rfl ⟨rfl, rfl, rfl, rfl, rfl⟩ rfl rfl rfl rfl rfl (by kernel_rfl) Try.func5 (by kernel_rfl)
    (of_decide_eq_true (by kernel_rfl)) (by unfold Func.isWrapper; first | (rw [if_pos (by decide +kernel)]; kernel_rfl) | (rw [if_neg (by decide +kernel)]; exact ⟨rfl, rfl⟩))
    (fun os started H enc _ => lifted os started H enc)

theorem proved : Rows.FnCentreIntegerVectorExactSaid := over
end Go.Proofs.Qxb6603720a.centreLaw
