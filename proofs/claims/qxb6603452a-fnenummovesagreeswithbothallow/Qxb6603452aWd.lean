import Derived.Test.Qxb6603452aMem
set_option linter.unusedVariables false
set_option linter.unusedSimpArgs false
namespace Go.Vc
open Go Go.RowKit
section
variable {P : Program} {fn : Func} {f : FuncId} {n : Nat} {R : Ending → World → Prop} {k : List Item} {ρ : Env} {w : World} {ds : List (Option Nat)} {K K' : Env → World → Prop}

theorem vcL_mono (hK : ∀ ρ w, K ρ w → K' ρ w) : ∀ (l : List Oper) (ρ : Env) (w : World), vcL P ds K l ρ w → vcL P ds K' l ρ w
  | [], ρ, w, h => hK _ _ h
  | o :: os, ρ, w, h => by
    simp only [vcL] at h ⊢
    split
    · rename_i hg
      rw [if_pos hg] at h
      exact opW_mono (fun v w' hv => vcL_mono hK os _ _ hv) h
    · rename_i hg
      rw [if_neg hg] at h
      exact vcL_mono hK os _ _ h
theorem vcL_append : ∀ (l1 l2 : List Oper) (ρ : Env) (w : World), vcL P ds (fun ρ' w' => vcL P ds K l2 ρ' w') l1 ρ w → vcL P ds K (l1 ++ l2) ρ w
  | [], l2, ρ, w, h => h
  | o :: os, l2, ρ, w, h => by
    simp only [List.cons_append, vcL] at h ⊢
    split
    · rename_i hg
      rw [if_pos hg] at h
      exact opW_mono (fun v w' hv => vcL_append os l2 _ _ hv) h
    · rename_i hg
      rw [if_neg hg] at h
      exact vcL_append os l2 _ _ h

/-- a region, its m-th operation by hand -/
theorem G.rgAt {id : Nat} {ops : Array Oper} (m : Nat) {o : Oper} (ho : ops.toList[m]? = some o) (hg : o.guard = none) (hd : (ops.toList.all (dstB n)) = true)
    (h : vc P (ops.toList.map (·.dst)) (fun ρ1 w1 => opW P o ρ1 w1 (fun v w2 => vc P (ops.toList.map (·.dst)) (fun ρ' w' => G P fn f n R k ρ' w') (ops.toList.drop (m + 1)) (put ρ1 o.dst v) w2)) (ops.toList.take m) ρ w) :
    G P fn f n R (.code (.region id ops false) :: k) ρ w := by
  refine G.reg hd ?_
  obtain ⟨hlt, hm⟩ := List.getElem?_eq_some_iff.1 ho
  have e : ops.toList = ops.toList.take m ++ o :: ops.toList.drop (m + 1) := by
    rw [← hm, List.getElem_cons_drop, List.take_append_drop]
  generalize ops.toList.map (·.dst) = ds at h ⊢
  rw [e]
  refine vcL_append _ _ _ _ (vcL_mono (fun ρ1 w1 h1 => ?_) _ _ _ (vcL_of_vc _ _ _ h))
  simp only [vcL, hg, gok, if_true]
  exact opW_mono (fun v w' hv => vcL_of_vc _ _ _ hv) h1
theorem G.srAt {id : Nat} {ops : Array Oper} {y : Code} (m : Nat) {o : Oper} (ho : ops.toList[m]? = some o) (hg : o.guard = none) (hd : (ops.toList.all (dstB n)) = true)
    (h : vc P (ops.toList.map (·.dst)) (fun ρ1 w1 => opW P o ρ1 w1 (fun v w2 => vc P (ops.toList.map (·.dst)) (fun ρ' w' => G P fn f n R (.code y :: k) ρ' w') (ops.toList.drop (m + 1)) (put ρ1 o.dst v) w2)) (ops.toList.take m) ρ w) :
    G P fn f n R (.code (.seq (.region id ops false) y) :: k) ρ w := G.seq (G.rgAt m ho hg hd h)
end

section
variable {P : Program} {ρ : Env} {w : World} {d : Option Nat} {ty : TypeId} {pos : String} {aft : Array Edge}
theorem opW_idx {t e : TypeId} {s bytes : Nat} {z : Value} (he : Elem P t e s bytes z) {x i : Operand} {a : Addr} {len cap : Nat} {q : IntKind} {m : Int} {K : Value → World → Prop} (hx : ev ρ x = .slice (some a) len cap) (hi : ev ρ i = .int q m) (h1 : 0 ≤ m) (h2 : m < len)
    (h : K (.pointer (some (a.add (m.toNat * s)))) w) : opW P ⟨d, .indexAddr t x i, ty, pos, aft, none⟩ ρ w K := by
  obtain ⟨inf, hinf, hz, hs, hb⟩ := he.info
  simp only [opW, execOp, hx, hi]
  simpa [Instr.indexAt, underlying, he.und, asIntOf, h1, h2, sizeOf, typeInfo, hinf, hs] using h
theorem opW_slhi {t e : TypeId} {s bytes : Nat} {z : Value} (he : Elem P t e s bytes z) {x i : Operand} {a : Option Addr} {len cap : Nat} {q : IntKind} {m : Int} {K : Value → World → Prop} (hx : ev ρ x = .slice a len cap) (hi : ev ρ i = .int q m) (h1 : 0 ≤ m) (h2 : m ≤ cap)
    (h : K (.slice a m.toNat cap) w) : opW P ⟨d, .slice t x none (some i) none, ty, pos, aft, none⟩ ρ w K := by
  obtain ⟨inf, hinf, hz, hs, hb⟩ := he.info
  simp only [opW, execOp]
  simpa [hx, hi, Instr.sliceAt, Instr.slice, underlying, he.und, Instr.sliceBounds, Instr.sliceBound, asIntOf, h1, h2, sizeOf, typeInfo, hinf, hs, Addr.add_zero'] using h
theorem opW_lit2 {t e : TypeId} {bytes : Nat} {z : Value} (he : Elem P t e 2 bytes z) {x : Operand} {u v : Value} {K : Value → World → Prop} (hx : ev ρ x = .agg #[u, v]) (hc : (Value.agg #[u, v]).cells = #[u, v])
    (h : K (.slice (some ⟨w.heap.size, 0, none⟩) 1 1) (w.alloc (.cells #[u, v] e))) : opW P ⟨d, .buildSlice t 1 #[(0, x)], ty, pos, aft, none⟩ ρ w K := by
  obtain ⟨inf, hinf, hz, hs, hb⟩ := he.info
  have er : ∀ g : Nat → Value, (Array.range 2).map g = #[g 0, g 1] := fun g => by
    have h1 : Array.range 2 = #[0, 1] := by decide
    rw [h1]; simp
  simp only [opW, execOp]
  simpa [hx, Instr.buildSlice, underlying, he.und, sizeOf, typeInfo, hinf, hs, zeroValue, hz, Instr.fill, hc, er, newRow] using h
end

theorem Own.shrink {w : World} {g : Option Nat} {a : Option Addr} {e : TypeId} {s n m cap : Nat} {F : Nat → Value} (h : Own w g (.slice a n cap) e s n F) (hm : m ≤ n) : Own w g (.slice a m cap) e s m F := by
  cases g with
  | none =>
    obtain ⟨h1, h2⟩ := h
    simp at h1
    obtain ⟨rfl, rfl, rfl⟩ := h1
    exact ⟨by rw [show m = 0 by omega], by omega⟩
  | some b =>
    obtain ⟨off, cap', N, F', hv, hn, hN, hr, hF⟩ := h
    simp at hv
    obtain ⟨rfl, rfl⟩ := hv
    refine ⟨off, cap, N, F', rfl, by omega, hN, hr, fun i hi => hF i ?_⟩
    have : m * s ≤ n * s := Nat.mul_le_mul_right _ hm
    omega
theorem Own.setAt {w : World} {b : Nat} {off n cap : Nat} {e : TypeId} {s i : Nat} {F : Nat → Value} {v : Value} (h : Own w (some b) (.slice (some ⟨b, off, none⟩) n cap) e s n F) (hi : i < n * s) : Own (w.setCell ⟨b, off + i, none⟩ v) (some b) (.slice (some ⟨b, off, none⟩) n cap) e s n (fun j => if j = i then v else F j) := by
  obtain ⟨off', cap', N, F', hv, hn, hN, hr, hF⟩ := h
  simp at hv
  obtain ⟨rfl, rfl⟩ := hv
  refine ⟨off, cap, N, _, rfl, hn, hN, hr.set _ _, fun j hj => ?_⟩
  by_cases e : j = i
  · subst e; simp
  · show (if off + j = off + i then v else F' (off + j)) = if j = i then v else F j
    rw [if_neg (by omega), if_neg e]; exact hF j hj
end Go.Vc
