/-
  MAPS keyed by int. Any program.
-/
import Derived.Test.Qxb6603705aMem
set_option linter.unusedVariables false
set_option linter.unusedSimpArgs false
namespace Go.Vc
open Go Go.RowKit

def keyI (e : MapEntry) : Int := match e.key with
  | .int _ q => q
  | _ => 0
def look : List MapEntry → Int → Nat → Option (Nat × Value)
  | [], _, _ => none
  | e :: es, k, i => if keyI e = k then some (i, e.val) else look es k (i + 1)
def AllI (l : List MapEntry) : Prop := ∀ e ∈ l, e.key = .int .i64 (keyI e)

theorem findNow_look : ∀ (l : List MapEntry) (k : Int) (i : Nat), AllI l → Instr.findNow (.int .i64) (.int .i64 k) l i = some (look l k i)
  | [], k, i, _ => rfl
  | e :: l, k, i, h => by
    have he := h e (by simp)
    have ih := findNow_look l k (i + 1) (fun e' he' => h e' (by simp [he']))
    rw [Instr.findNow, look, he]
    simp only [Instr.sameNow, if_true]
    by_cases hk : k = keyI e
    · subst hk; simp
    · have : (k == keyI e) = false := by simpa using hk
      rw [this, if_neg (fun e => hk e.symm)]
      exact ih

theorem look_append : ∀ (l : List MapEntry) (e : MapEntry) (k : Int) (i : Nat), look (l ++ [e]) k i = match look l k i with
    | some r => some r
    | none => if keyI e = k then some (i + l.length, e.val) else none
  | [], e, k, i => by simp [look]
  | x :: l, e, k, i => by
    simp only [List.cons_append, look]
    split
    · rfl
    · rw [look_append l e k (i + 1)]
      simp only [List.length_cons]
      cases look l k (i + 1) <;> simp [Nat.add_assoc, Nat.add_comm 1]

theorem look_modify : ∀ (l : List MapEntry) (k : Int) (i j : Nat) (u x : Value), look l k i = some (j, u) → i ≤ j ∧ j - i < l.length ∧ (∃ e, l[j - i]? = some e ∧ keyI e = k) ∧
    ∀ k', look (l.modify (j - i) (fun e => { e with key := .int .i64 k, val := x })) k' i = if k' = k then some (j, x) else look l k' i
  | [], k, i, j, u, x, h => by cases h
  | e :: l, k, i, j, u, x, h => by
    simp only [look] at h
    split at h
    · rename_i hk
      simp at h
      obtain ⟨rfl, rfl⟩ := h
      refine ⟨Nat.le_refl _, by simp, ⟨e, by simp, hk⟩, fun k' => ?_⟩
      simp only [Nat.sub_self, List.modify_zero_cons, look]
      have hkx : keyI ({ key := .int .i64 k, val := x, born := e.born } : MapEntry) = k := rfl
      rw [hkx]
      by_cases h' : k' = k
      · subst h'; simp
      · have h2 : ¬ k = k' := fun e => h' e.symm
        rw [if_neg h2, if_neg h', hk, if_neg h2]
    · rename_i hk
      obtain ⟨h1, h2, ⟨e', he', hk'⟩, h4⟩ := look_modify l k (i + 1) j u x h
      have ej : j - i = (j - (i + 1)) + 1 := by omega
      refine ⟨by omega, by simp; omega, ⟨e', by rw [ej]; simpa using he', hk'⟩, fun k' => ?_⟩
      rw [ej, List.modify_succ_cons]
      simp only [look]
      by_cases h' : k' = k
      · subst h'
        rw [if_neg hk, h4, if_pos rfl, if_pos rfl]
      · rw [h4, if_neg h', if_neg h']

def MapI (w : World) (b : Nat) (M : Int → Option Value) : Prop := ∃ es clock, w.heap[b]? = some (.map es clock) ∧ AllI es.toList ∧ ∀ k, (look es.toList k 0).map (·.2) = M k
theorem MapI.of_block {w w' : World} {b : Nat} {M : Int → Option Value} (h : MapI w b M) (e : w'.heap[b]? = w.heap[b]?) : MapI w' b M := by
  obtain ⟨es, c, h1, h2, h3⟩ := h
  exact ⟨es, c, e.trans h1, h2, h3⟩
theorem MapI.lt {w : World} {b : Nat} {M : Int → Option Value} (h : MapI w b M) : b < w.heap.size := by
  obtain ⟨es, c, h1, h2, h3⟩ := h
  exact (Array.getElem?_eq_some_iff.1 h1).1

section
variable {P : Program}
theorem run_checkKey {t : TypeId} {b : Bool} {k : Int} (ht : P.underlying t = some (.int .i64)) (w : World) : (Instr.checkKey b 10000 t (.int .i64 k)).run P w = .ok () w := by
  show (Instr.checkKey b (9999 + 1) t (.int .i64 k)).run P w = .ok () w
  rw [Instr.checkKey]
  simp [underlying, ht]
theorem run_findKey {t : TypeId} {k : Int} {l : List MapEntry} (ht : P.underlying t = some (.int .i64)) (hl : AllI l) (w : World) : (Instr.findKey t (.int .i64 k) l).run P w = .ok (look l k 0) w := by
  simp [Instr.findKey, underlying, ht, findNow_look l k 0 hl]
theorem run_lookup {t kt et : TypeId} {z : Value} (hm : P.underlying t = some (.map kt et)) (ht : P.underlying kt = some (.int .i64)) (hz : zeroOf P et = some z) {w : World} {b : Nat} {M : Int → Option Value} (h : MapI w b M) (k : Int) (ok : Bool) :
    (Instr.lookup t (.map (some b)) (.int .i64 k) ok).run P w = .ok (if ok then .tuple #[(M k).getD z, .bool (M k).isSome] else (M k).getD z) w := by
  obtain ⟨es, c, h1, h2, h3⟩ := h
  have hg : (getObj b).run P w = .ok (.map es c) w := by simp [getObj, Sem.run, h1]
  have hzv : (zeroValue et).run P w = .ok z w := by
    unfold zeroOf at hz
    cases hi : P.info? et with
    | none => simp [hi] at hz
    | some i => simp [hi] at hz; simp [zeroValue, typeInfo, hi, hz]
  simp only [Instr.lookup, underlying, Sem.run_bind, run_program, Result.andThen_ok, hm, Sem.run_pure, hg, run_checkKey ht, run_findKey ht h2]
  rw [← h3 k]
  cases look es.toList k 0 with
  | none => simp only [Sem.run_bind, hzv, Result.andThen_ok, Sem.run_pure]; cases ok <;> simp
  | some r => cases ok <;> simp
theorem run_update {t kt et : TypeId} (hm : P.underlying t = some (.map kt et)) (ht : P.underlying kt = some (.int .i64)) {w : World} {b : Nat} {M : Int → Option Value} (h : MapI w b M) (k : Int) (x : Value) :
    ∃ w', (Instr.mapUpdate t (.map (some b)) (.int .i64 k) x).run P w = .ok () w' ∧ MapI w' b (fun k' => if k' = k then some x else M k') ∧ w.grownBy w' (some b) ∧ w'.heap.size = w.heap.size := by
  obtain ⟨es, c, h1, h2, h3⟩ := h
  have hlt : b < w.heap.size := (Array.getElem?_eq_some_iff.1 h1).1
  have hg : (getObj b).run P w = .ok (.map es c) w := by simp [getObj, Sem.run, h1]
  have hset : ∀ o : Obj, (setObj b o).run P w = .ok () { w with heap := w.heap.setIfInBounds b o } := fun o => by simp [setObj, Sem.run, h1]
  have hgr : ∀ o : Obj, w.grownBy { w with heap := w.heap.setIfInBounds b o } (some b) := fun o =>
    ⟨rfl, rfl, rfl, by simp, fun i hi hne => by
      have : b ≠ i := fun e => hne (by rw [e])
      simp [Array.getElem?_setIfInBounds, this]⟩
  have hnew : ∀ o : Obj, ({ w with heap := w.heap.setIfInBounds b o } : World).heap[b]? = some o := fun o => by simp [Array.getElem?_setIfInBounds, hlt]
  simp only [Instr.mapUpdate, underlying, Sem.run_bind, run_program, Result.andThen_ok, hm, Sem.run_pure, hg, run_checkKey ht, run_findKey ht h2]
  cases hl : look es.toList k 0 with
  | none =>
    simp only [hset]
    refine ⟨_, rfl, ⟨_, _, hnew _, ?_, fun k' => ?_⟩, hgr _, by simp⟩
    · intro e he
      simp at he
      rcases he with he | rfl
      · exact h2 e (by simpa using he)
      · rfl
    · show _ = if k' = k then some x else M k'
      rw [Array.toList_push, look_append]
      by_cases hk : k' = k
      · subst hk; simp [hl, keyI]
      · rw [if_neg hk, ← h3 k']
        have hk2 : ¬ k = k' := fun e => hk e.symm
        cases look es.toList k' 0 <;> simp [keyI, hk2]
  | some r =>
    obtain ⟨j, u⟩ := r
    obtain ⟨_, hj, ⟨e, he, hke⟩, hmod⟩ := look_modify es.toList k 0 j u x hl
    simp only [Nat.sub_zero] at hj he hmod
    have hje : es[j]? = some e := by simpa using he
    have hkey : e.key = .int .i64 k := by
      rw [← hke]; exact h2 e (List.mem_of_getElem? he)
    have hks : (Instr.keyThatStays (((es[j]?).map (·.key)).getD (.int .i64 k)) (.int .i64 k)).run P w = .ok (.int .i64 k) w := by
      simp [hje, hkey, Instr.keyThatStays, Instr.sameBits]
    simp only [Sem.run_bind, hks, Result.andThen_ok, hset]
    refine ⟨_, rfl, ⟨_, _, hnew _, ?_, fun k' => ?_⟩, hgr _, by simp⟩
    · intro e' he'
      rw [Array.toList_modify] at he'
      obtain ⟨q, hq⟩ := List.getElem?_of_mem he'
      rw [List.getElem?_modify] at hq
      by_cases hqj : j = q
      · subst hqj
        simp [he] at hq
        subst hq; rfl
      · simp [hqj] at hq
        exact h2 e' (List.mem_of_getElem? (by simpa using hq))
    · show _ = if k' = k then some x else M k'
      rw [Array.toList_modify, hmod k']
      by_cases hk : k' = k
      · subst hk; simp
      · rw [if_neg hk, if_neg hk, h3]

variable {ds : List (Option Nat)} {K : Env → World → Prop} {os : List Oper} {ρ : Env} {w : World} {d : Option Nat} {ty : TypeId} {pos : String} {aft : Array Edge}
theorem vc_lookup {t kt et : TypeId} {z : Value} (hm : P.underlying t = some (.map kt et)) (ht : P.underlying kt = some (.int .i64)) (hz : zeroOf P et = some z) {mo ko : Operand} {ok : Bool} {b : Nat} {k : Int} {M : Int → Option Value} (h : MapI w b M)
    (h1 : ev ρ mo = .map (some b)) (h2 : ev ρ ko = .int .i64 k) (hK : vc P ds K os (put ρ d (if ok then .tuple #[(M k).getD z, .bool (M k).isSome] else (M k).getD z)) w) :
    vc P ds K (⟨d, .lookup t mo ko ok, ty, pos, aft, none⟩ :: os) ρ w := by
  simp only [vc, gok, if_true, opF]
  simp only [opW, execOp, h1, h2, Sem.run_bind, run_lookup hm ht hz h k ok, Result.andThen_ok, Sem.run_pure]
  exact hK
theorem vc_update {t kt et : TypeId} (hm : P.underlying t = some (.map kt et)) (ht : P.underlying kt = some (.int .i64)) {mo ko xo : Operand} {b : Nat} {k : Int} {M : Int → Option Value} (h : MapI w b M)
    (h1 : ev ρ mo = .map (some b)) (h2 : ev ρ ko = .int .i64 k) (hK : ∀ w', MapI w' b (fun k' => if k' = k then some (ev ρ xo) else M k') → w.grownBy w' (some b) → w'.heap.size = w.heap.size → vc P ds K os (put ρ d undef) w') :
    vc P ds K (⟨d, .mapUpdate t mo ko xo, ty, pos, aft, none⟩ :: os) ρ w := by
  obtain ⟨w', hr, a1, a2, a3⟩ := run_update hm ht h k (ev ρ xo)
  simp only [vc, gok, if_true, opF]
  simp only [opW, execOp, h1, h2, Sem.run_bind, hr, Result.andThen_ok, Sem.run_pure]
  exact hK w' a1 a2 a3
theorem vc_insert {t kt et : TypeId} (hm : P.underlying t = some (.map kt et)) (ht : P.underlying kt = some (.int .i64)) {mo ko xo : Operand} {b : Nat} {k : Int} {M : Int → Option Value} (h : MapI w b M)
    (h1 : ev ρ mo = .map (some b)) (h2 : ev ρ ko = .int .i64 k) (hK : ∀ w', MapI w' b (fun k' => if k' = k then some (ev ρ xo) else M k') → w.grownBy w' (some b) → w'.heap.size = w.heap.size → vc P ds K os (put ρ d undef) w') :
    vc P ds K (⟨d, .insert t mo ko xo, ty, pos, aft, none⟩ :: os) ρ w := by
  obtain ⟨w', hr, a1, a2, a3⟩ := run_update hm ht h k (ev ρ xo)
  simp only [vc, gok, if_true, opF]
  simp only [opW, execOp, h1, h2, Sem.run_bind, hr, Result.andThen_ok, Sem.run_pure]
  exact hK w' a1 a2 a3
theorem vc_makeMap {t kt et : TypeId} (hm : P.underlying t = some (.map kt et)) {r : Option Operand} (hr : ∀ x, r = some x → ∃ k n, ev ρ x = .int k n)
    (hK : ∀ w', MapI w' w.heap.size (fun _ => none) → w.grownBy w' none → w'.heap.size = w.heap.size + 1 → vc P ds K os (put ρ d (.map (some w.heap.size))) w') :
    vc P ds K (⟨d, .makeMap t r, ty, pos, aft, none⟩ :: os) ρ w := by
  have hrun : (Instr.makeMap t (r.map (ev ρ))).run P w = .ok (.map (some w.heap.size)) (w.alloc (.map #[] 0)) := by
    cases r with
    | none => simp [Instr.makeMap]
    | some x =>
      obtain ⟨k, n, hx⟩ := hr x rfl
      simp [Instr.makeMap, underlying, hm, hx, asInt, asIntOf]
  simp only [vc, gok, if_true, opF]
  simp only [opW, execOp, Sem.run_bind, hrun, Result.andThen_ok, Sem.run_pure]
  exact hK _ ⟨#[], 0, heap_alloc_new _ _, by intro e he; simp at he, fun k => rfl⟩ (grown_alloc _ _ _) (by simp)
end
end Go.Vc
