/-
  MEMORY OF THE CALL's OWN: slices that are appended to, made, cut. Any program.
-/
import Derived.Test.Qxb6603452aOp
import Derived.Laws.AppendOwn
import Derived.Laws.OwnMore
set_option linter.unusedVariables false
set_option linter.unusedSimpArgs false
namespace Go.Vc
open Go Go.RowKit

/-- THE SLICE VALUE v, of n elements of s cells each, lies in block g (none: the nil slice), alone there; its cells are F. -/
def Own (w : World) (g : Option Nat) (v : Value) (e : TypeId) (s n : Nat) (F : Nat → Value) : Prop :=
  match g with
  | none => v = .slice none 0 0 ∧ n = 0
  | some b => ∃ off cap N F', v = .slice (some ⟨b, off, none⟩) n cap ∧ n ≤ cap ∧ off + cap * s ≤ N ∧ w.rowIs b e N F' ∧ ∀ i, i < n * s → F' (off + i) = F i

theorem Own.of_block {w w' : World} {g : Option Nat} {v : Value} {e : TypeId} {s n : Nat} {F : Nat → Value} (h : Own w g v e s n F) (hb : ∀ b, g = some b → w'.heap[b]? = w.heap[b]?) : Own w' g v e s n F := by
  cases g with
  | none => exact h
  | some b =>
    obtain ⟨off, cap, N, F', hv, hn, hN, hr, hF⟩ := h
    exact ⟨off, cap, N, F', hv, hn, hN, hr.of_block (hb b rfl), hF⟩
theorem Own.lt {w : World} {b : Nat} {v : Value} {e : TypeId} {s n : Nat} {F : Nat → Value} (h : Own w (some b) v e s n F) : b < w.heap.size := by
  obtain ⟨off, cap, N, F', hv, hn, hN, hr, hF⟩ := h
  exact hr.lt
theorem Own.congr {w : World} {g : Option Nat} {v : Value} {e : TypeId} {s n : Nat} {F F' : Nat → Value} (h : Own w g v e s n F) (hF : ∀ i, i < n * s → F i = F' i) : Own w g v e s n F' := by
  cases g with
  | none => exact h
  | some b =>
    obtain ⟨off, cap, N, F0, hv, hn, hN, hr, h0⟩ := h
    exact ⟨off, cap, N, F0, hv, hn, hN, hr, fun i hi => (h0 i hi).trans (hF i hi)⟩
/-- its value and its cells -/
theorem Own.val {w : World} {g : Option Nat} {v : Value} {e : TypeId} {s n : Nat} {F : Nat → Value} (h : Own w g v e s n F) :
    ∃ a cap, v = .slice a n cap ∧ n ≤ cap ∧ (0 < n → ∃ b off, g = some b ∧ a = some ⟨b, off, none⟩ ∧ (∀ i, i < n * s → w.cell? ⟨b, off + i, none⟩ = some (F i)) ∧ ∀ i, w.frozen? ⟨b, i, none⟩ = false) := by
  cases g with
  | none => obtain ⟨rfl, rfl⟩ := h; exact ⟨none, 0, rfl, Nat.le_refl _, fun h => absurd h (by omega)⟩
  | some b =>
    obtain ⟨off, cap, N, F0, hv, hn, hN, hr, h0⟩ := h
    refine ⟨_, cap, hv, hn, fun _ => ⟨b, off, rfl, rfl, fun i hi => ?_, fun i => hr.frozen i⟩⟩
    have : n * s ≤ cap * s := Nat.mul_le_mul_right s hn
    rw [hr.cell (by omega), h0 i hi]

/-- 'q[1:]' -/
theorem Own.tail {w : World} {b : Nat} {a : Addr} {e : TypeId} {n cap : Nat} {F : Nat → Value} (h : Own w (some b) (.slice (some a) (n + 1) cap) e 1 (n + 1) F) : Own w (some b) (.slice (if cap = 1 then some a else (some a).map (·.add 1)) n (cap - 1)) e 1 n (fun i => F (i + 1)) := by
  obtain ⟨off, cap', N, F', hv, hn, hN, hr, hF⟩ := h
  simp at hv
  obtain ⟨rfl, rfl⟩ := hv
  by_cases h1 : cap = 1
  · subst h1
    refine ⟨off, 0, N, F', by simp, by omega, by omega, hr, fun i hi => ?_⟩
    omega
  · refine ⟨off + 1, cap - 1, N, F', by simp [h1, add_at], by omega, by omega, hr, fun i hi => ?_⟩
    have := hF (i + 1) (by omega)
    show F' (off + 1 + i) = F (i + 1)
    rw [← this]; congr 1; omega

/-! ### grownBy -/
theorem grown_refl (w : World) (r : Option Nat) : w.grownBy w r := ⟨rfl, rfl, rfl, Nat.le_refl _, fun _ _ _ => rfl⟩
theorem grown_trans {a b c : World} {r : Option Nat} (h : a.grownBy b r) (k : b.grownBy c r) : a.grownBy c r :=
  ⟨k.os.trans h.os, k.tape.trans h.tape, k.output.trans h.output, Nat.le_trans h.size k.size, fun i hi hr => (k.block i (Nat.lt_of_lt_of_le hi h.size) hr).trans (h.block i hi hr)⟩
theorem grown_set (w : World) (b i : Nat) (v : Value) : w.grownBy (w.setCell ⟨b, i, none⟩ v) (some b) :=
  ⟨rfl, rfl, rfl, by simp, fun k hk hr => Below.heap_setCell _ _ _ _ (fun e => hr (by simp at e; rw [e]))⟩
theorem grown_alloc (w : World) (o : Obj) (r : Option Nat) : w.grownBy (w.alloc o) r := World.grownBy_alloc w o r
theorem grown_drew (w : World) (r : Option Nat) : w.grownBy w.drew r := ⟨rfl, rfl, rfl, Nat.le_refl _, fun _ _ _ => rfl⟩
/-- blocks from B on alone have turned -/
theorem grown_below {w w' : World} {r : Option Nat} {B : Nat} (h : w.grownBy w' r) (hB : B ≤ w.heap.size) (hr : ∀ b, r = some b → B ≤ b) : Below B w w' :=
  ⟨h.os, h.tape, h.output, h.size, fun k hk => h.block k (by omega) (fun e => by have := hr k e.symm; omega)⟩

section
variable {P : Program}
theorem run_storeCells (b off N : Nat) (e : TypeId) : ∀ (vs : List Value) (i : Nat) (w : World) (F : Nat → Value), w.rowIs b e N F → (∀ v ∈ vs, atomB v = true) → off + i + vs.length ≤ N →
    ∃ w', (storeCells ⟨b, off, none⟩ vs i).run P w = .ok () w' ∧ w'.rowIs b e N (fun j => if off + i ≤ j ∧ j < off + i + vs.length then vs.getD (j - (off + i)) undef else F j) ∧ w.grownBy w' (some b)
  | [], i, w, F, hr, _, _ => ⟨w, rfl, hr.congr (fun j hj => by rw [if_neg (fun h => by simp at h; omega)]), grown_refl _ _⟩
  | v :: vs, i, w, F, hr, ha, hl => by
    simp only [List.length_cons] at hl
    have hv : atomB v = true := ha v (by simp)
    have hst : (store (Addr.add ⟨b, off, none⟩ i) v).run P w = .ok () (w.setCell ⟨b, off + i, none⟩ v) := by
      have hc := hr.cell (i := off + i) (by omega)
      have hf := hr.frozen (off + i)
      rw [add_at]
      cases v <;> first | (simp [atomB] at hv; done) | simp [store, Sem.run, hc, hf]
    have hr1 := hr.set (off + i) v
    obtain ⟨w', h1, h2, h3⟩ := run_storeCells b off N e vs (i + 1) _ _ hr1 (fun u hu => ha u (by simp [hu])) (by omega)
    refine ⟨w', ?_, h2.congr (fun j hj => ?_), grown_trans (grown_set _ _ _ _) h3⟩
    · rw [storeCells]
      simp only [Sem.run_bind, hst, Result.andThen_ok, h1]
    · simp only [List.length_cons]
      by_cases hj1 : j = off + i
      · subst hj1
        rw [if_neg (by omega), if_pos rfl, if_pos (by omega)]
        simp
      · by_cases hj2 : off + (i + 1) ≤ j ∧ j < off + (i + 1) + vs.length
        · rw [if_pos hj2, if_pos (by omega)]
          have : j - (off + i) = (j - (off + (i + 1))) + 1 := by omega
          rw [this]; simp
        · rw [if_neg hj2, if_neg hj1, if_neg (by omega)]

/-- what is known of an element type -/
structure Elem (P : Program) (t e : TypeId) (s bytes : Nat) (z : Value) : Prop where
  und : P.underlying t = some (.slice e)
  inf : (P.info? e).map (fun i => (i.zero, i.size, i.bytes)) = some (some z, s, bytes)
  zc : z.cells.size = s

theorem Elem.info {t e : TypeId} {s bytes : Nat} {z : Value} (h : Elem P t e s bytes z) : ∃ i, P.info? e = some i ∧ i.zero = some z ∧ i.size = s ∧ i.bytes = bytes := by
  obtain ⟨i, hi, hzz⟩ := Option.map_eq_some_iff.1 h.inf
  simp only [Prod.mk.injEq] at hzz
  exact ⟨i, hi, hzz.1, hzz.2.1, hzz.2.2⟩

theorem grownCap_ge (w : World) (need old : Nat) (e : TypeId) : need ≤ grownCap w need old e := by
  simp [grownCap, Question.cut]

theorem rowIs_new (w : World) (olds news rest : List Value) (e : TypeId) :
    (w.alloc (.cells (olds.toArray ++ news.toArray ++ rest.toArray) e)).rowIs w.heap.size e (olds.length + news.length + rest.length) (fun i => (olds ++ news ++ rest).getD i undef) := by
  have := World.rowIs_alloc w (olds ++ news ++ rest).toArray e (fun i => (olds ++ news ++ rest).getD i undef) (fun i hi => by
    simp at hi
    simp only [List.getElem?_toArray, List.getD_eq_getElem?_getD]
    rw [List.getElem?_eq_getElem (by simp; omega)]
    simp)
  simpa [Nat.add_assoc] using this

theorem run_append {t ty e : TypeId} {s bytes : Nat} {z : Value} (he : Elem P t e s bytes z) {w : World} {g : Option Nat} {v : Value} {n : Nat} {F : Nat → Value} (hown : Own w g v e s n F)
    (a : Addr) (m c : Nat) (news : List Value) (hl : news.length = m * s) (hnews : ∀ j u, news[j]? = some u → w.cell? (a.add j) = some u) (hatom : ∀ u ∈ news, atomB u = true)
    (hm : 0 < m) (h47 : (n + m) * bytes ≤ 140737488355328) (h63 : n + m ≤ 9223372036854775807) :
    ∃ v' w' g', (Builtin.append_ #[t, t] ty #[v, .slice (some a) m c]).run P w = .ok v' w' ∧ Own w' g' v' e s (n + m) (fun i => if i < n * s then F i else news.getD (i - n * s) undef) ∧ w.grownBy w' g ∧
      (g' = g ∨ g' = some w.heap.size) ∧ g' ≠ none := by
  obtain ⟨i, hi, hz, hs, hby⟩ := he.info
  have ht := he.und
  have h48 : ∀ old, old < n + m → Builtin.nextslicecap (n + m) old * i.bytes ≤ 281474976710656 := fun old ho => growslice_fits ho (by rw [hby]; exact h47)
  have newRow : ∀ (olds : List Value) (cap : Nat), olds.length = n * s → n + m ≤ cap → (∀ j, j < n * s → olds.getD j undef = F j) →
      Own (w.drew.alloc (.cells (olds.toArray ++ news.toArray ++ Builtin.zeroCells z.cells (cap - (n + m))) e)) (some w.heap.size) (.slice (some ⟨w.heap.size, 0, none⟩) (n + m) cap) e s (n + m) (fun i => if i < n * s then F i else news.getD (i - n * s) undef) := by
    intro olds cap ho hc hF
    have hzl : (Builtin.zeroCells z.cells (cap - (n + m))).toList.length = (cap - (n + m)) * s := by simp [Builtin.zeroCells, he.zc]
    have hr := rowIs_new w.drew olds news (Builtin.zeroCells z.cells (cap - (n + m))).toList e
    simp only [Array.toArray_toList] at hr
    rw [ho, hl, hzl] at hr
    have ec : n * s + m * s + (cap - (n + m)) * s = cap * s := by
      rw [← Nat.add_mul, ← Nat.add_mul]; congr 1; omega
    rw [ec] at hr
    refine ⟨0, cap, _, _, rfl, hc, by rw [Nat.zero_add]; exact Nat.le_refl _, hr, fun i hi => ?_⟩
    show (olds ++ news ++ (Builtin.zeroCells z.cells (cap - (n + m))).toList).getD (0 + i) undef = if i < n * s then F i else news.getD (i - n * s) undef
    rw [Nat.zero_add, List.getD_eq_getElem?_getD, List.getD_eq_getElem?_getD]
    have hi' : i < n * s + m * s := by rw [← Nat.add_mul]; exact hi
    by_cases h : i < n * s
    · rw [if_pos h, ← hF i h, List.getD_eq_getElem?_getD, List.append_assoc, List.getElem?_append_left (by omega : i < olds.length)]
    · rw [if_neg h, List.append_assoc, List.getElem?_append_right (by omega : olds.length ≤ i), ho, List.getElem?_append_left (by omega : i - n * s < news.length)]
  cases g with
  | none =>
    obtain ⟨rfl, rfl⟩ := hown
    have hr := run_append_nil (P := P) w t ty e i z ht hi hz a m c news (by rw [hs]; exact hl) hnews hm (by omega) (by rw [hby]; simp at h47; omega)
    refine ⟨_, _, some w.heap.size, hr, ?_, grown_trans (grown_drew _ _) (grown_alloc _ _ _), .inr rfl, by simp⟩
    have := newRow [] (grownCap w m 0 e) (by simp) (by have := grownCap_ge w m 0 e; omega) (by simp)
    simpa using this
  | some b =>
    obtain ⟨off, cap, N, F', rfl, hn, hN, hrow, hF⟩ := hown
    have hcs : n * s ≤ cap * s := Nat.mul_le_mul_right s hn
    by_cases hroom : n + m ≤ cap
    · have hms : n * s + m * s ≤ cap * s := by rw [← Nat.add_mul]; exact Nat.mul_le_mul_right s hroom
      obtain ⟨w', h1, h2, h3⟩ := run_storeCells (P := P) b (off + n * s) N e news 0 w F' hrow hatom (by omega)
      have hfirst := run_firstCells_some (P := P) w i.size m a m c news (by rw [hs]; exact hl) hnews
      refine ⟨.slice (some ⟨b, off, none⟩) (n + m) cap, w', some b, ?_, ⟨off, cap, N, _, rfl, hroom, hN, h2, fun j hj => ?_⟩, h3, .inl rfl, by simp⟩
      · have hmul : n * i.size = n * s := by rw [hs]
        simp [Builtin.append_, run_underlying ht, sizeOf, typeInfo, hi, Builtin.lenOf, hroom, hfirst, hmul, add_at, h1]
      · have hj' : j < n * s + m * s := by rw [← Nat.add_mul]; exact hj
        simp only
        by_cases h : j < n * s
        · rw [if_neg (by omega), if_pos h, hF j h]
        · rw [if_pos (by omega), if_neg h]
          congr 1; omega
    · let olds : List Value := (List.range (n * s)).map F
      have hol : olds.length = n * s := by simp [olds]
      have holds : ∀ j u, olds[j]? = some u → w.cell? (Addr.add ⟨b, off, none⟩ j) = some u := by
        intro j u hu
        have hj : j < n * s := by
          have := (List.getElem?_eq_some_iff.1 hu).1
          omega
        rw [add_at, hrow.cell (by omega), hF j hj]
        simpa [olds, hj] using hu
      have hr := run_append_grow (P := P) w t ty e i z ht hi hz ⟨b, off, none⟩ n cap olds (by rw [hs]; exact hol) holds a m c news (by rw [hs]; exact hl) hnews (by omega) (by omega) (h48 cap (by omega))
      refine ⟨_, _, some w.heap.size, hr, ?_, grown_trans (grown_drew _ _) (grown_alloc _ _ _), .inr rfl, by simp⟩
      exact newRow olds _ hol (grownCap_ge _ _ _ _) (fun j hj => by simp [olds, hj])

section
variable {ds : List (Option Nat)} {K : Env → World → Prop} {os : List Oper} {ρ : Env} {w : World} {d : Option Nat} {ty : TypeId} {pos : String} {aft : Array Edge}

theorem vc_append {t e : TypeId} {s bytes : Nat} {z : Value} (he : Elem P t e s bytes z) {so xo : Operand} {g : Option Nat} {v : Value} {n : Nat} {F : Nat → Value} (hown : Own w g v e s n F)
    (a : Addr) (m c : Nat) (news : List Value) (hv : ev ρ so = v) (hx : ev ρ xo = .slice (some a) m c) (hl : news.length = m * s) (hnews : ∀ j u, news[j]? = some u → w.cell? (a.add j) = some u) (hatom : ∀ u ∈ news, atomB u = true)
    (hm : 0 < m) (h47 : (n + m) * bytes ≤ 140737488355328) (h63 : n + m ≤ 9223372036854775807)
    (h : ∀ v' w' g', Own w' g' v' e s (n + m) (fun i => if i < n * s then F i else news.getD (i - n * s) undef) → w.grownBy w' g → (g' = g ∨ g' = some w.heap.size) → g' ≠ none → vc P ds K os (put ρ d v') w') :
    vc P ds K (⟨d, .call ⟨.builtin .append, #[so, xo], #[t, t]⟩, ty, pos, aft, none⟩ :: os) ρ w := by
  obtain ⟨v', w', g', hrun, h1, h2, h3, h4⟩ := run_append (P := P) (ty := ty) he hown a m c news hl hnews hatom hm h47 h63
  simp only [vc, gok, if_true, opF, callF]
  simp [opW, execOp, resolve, invoke, builtin, hv, hx, hrun]
  exact h v' w' g' h1 h2 h3 h4

/-- 'append(s, x)', one element of one cell. -/
theorem vc_app1 {t e : TypeId} {bytes : Nat} {z x : Value} (he : Elem P t e 1 bytes z) {d1 d2 : Nat} {so xo : Operand} {ty1 ty2 : TypeId} {pos1 pos2 : String} {aft1 aft2 : Array Edge} {g : Option Nat} {v : Value} {n : Nat} {F : Nat → Value} (hown : Own w g v e 1 n F)
    (hel : elemB P t = some e) (hx : ev ρ xo = x) (hat : atomB x = true) (hv : ev (upd ρ d1 (.slice (some ⟨w.heap.size, 0, none⟩) 1 1)) so = v) (h47 : (n + 1) * bytes ≤ 140737488355328) (h63 : n + 1 ≤ 9223372036854775807)
    (h : ∀ v' w' g', Own w' g' v' e 1 (n + 1) (fun i => if i < n then F i else x) → w.grownBy w' g → (∀ b, g' = some b → g = some b ∨ w.heap.size ≤ b) → g' ≠ none → vc P ds K os (upd (upd ρ d1 (.slice (some ⟨w.heap.size, 0, none⟩) 1 1)) d2 v') w') :
    vc P ds K (⟨some d1, .buildSlice t 1 #[(0, xo)], ty1, pos1, aft1, none⟩ :: ⟨some d2, .call ⟨.builtin .append, #[so, .tmp d1], #[t, t]⟩, ty2, pos2, aft2, none⟩ :: os) ρ w := by
  subst hx
  rw [vc_lit1 t xo hel hat, put_some]
  have hown1 : Own (w.alloc (.cells #[ev ρ xo] e)) g v e 1 n F := hown.of_block (fun b hb => by subst hb; exact heap_alloc_old _ _ _ hown.lt)
  refine vc_append he hown1 ⟨w.heap.size, 0, none⟩ 1 1 [ev ρ xo] hv (by rw [ev_tmp, upd_apply, if_pos rfl]) (by simp) ?_ (by simpa using hat) (by omega) h47 h63 ?_
  · intro j u hj
    match j, hj with
    | 0, hj => simp at hj; subst hj; simp [add_at]
  · intro v' w' g' h1 h2 h3 h4
    rw [put_some]
    refine h v' w' g' (h1.congr (fun i hi => ?_)) (grown_trans (grown_alloc _ _ _) h2) (fun b hb => ?_) h4
    · simp only [Nat.mul_one] at hi ⊢
      by_cases hin : i < n
      · rw [if_pos hin, if_pos hin]
      · rw [if_neg hin, if_neg hin]
        have : i - n = 0 := by omega
        rw [this]; rfl
    · rcases h3 with h3 | h3
      · rw [h3] at hb; exact .inl hb
      · rw [h3] at hb; simp at hb; exact .inr (by omega)

theorem vc_build {t : TypeId} {parts : Array (Nat × Operand)} {v : Value} (hr : (Instr.build t (parts.map fun (i, x) => (i, ev ρ x))).run P w = .ok v w) (h : vc P ds K os (put ρ d v) w) : vc P ds K (⟨d, .build t parts, ty, pos, aft, none⟩ :: os) ρ w := by
  simp only [vc, gok, if_true, opF]
  simp only [opW, execOp, Sem.run_bind, hr, Result.andThen_ok, Sem.run_pure]
  exact h

theorem vc_make {t e : TypeId} {bytes : Nat} {z : Value} (he : Elem P t e 1 bytes z) (hz : atomB z = true) {lo co : Operand} {kl kc : IntKind} (m : Nat) (hl : ev ρ lo = .int kl (m : Int)) (hc : ev ρ co = .int kc (m : Int))
    (hb : bytes * m ≤ 281474976710656) (h63 : m ≤ 9223372036854775807)
    (h : ∀ w', w'.rowIs w.heap.size e m (fun _ => z) → w.grownBy w' none → w'.heap.size = w.heap.size + 1 → vc P ds K os (put ρ d (.slice (some ⟨w.heap.size, 0, none⟩) m m)) w') :
    vc P ds K (⟨d, .makeSlice t lo co, ty, pos, aft, none⟩ :: os) ρ w := by
  have hz1 : z.cells = #[z] := by cases z <;> first | rfl | simp [atomB] at hz
  have hrun := run_make_row' (P := P) t e z bytes he.und he.inf hz1 kl kc m hb h63 w
  simp only [vc, gok, if_true, opF]
  simp only [opW, execOp, hl, hc, Sem.run_bind, hrun, Result.andThen_ok, Sem.run_pure]
  exact h _ (World.rowIs_made _ _ _ _) (grown_alloc _ _ _) (by simp)
end
end
end Go.Vc
