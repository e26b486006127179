import Derived.Test.Qxb6603705aR13
set_option linter.unusedVariables false
set_option linter.unusedSimpArgs false
namespace Go.Proofs.Qxb6603705a
open Go Go.Vc Go.RowKit Go.Gr

structure QI (n : Nat) (A : Nat → Prop) (c s0 cnt : Nat) (D : Nat → Nat) (Mk : Nat → Int) : Prop where
  pos : 0 < cnt
  d0 : D 0 = s0
  inj : ∀ i j, i < j → j < cnt → D i ≠ D j
  mem : ∀ i, i < cnt → D i < n ∧ A (D i)
  m1 : ∀ u, u < n → Mk u ≤ c + 1
  m2 : ∀ i, i < cnt → Mk (D i) = c + 1
  m3 : ∀ u, u < n → Mk u = c + 1 → ∃ i, i < cnt ∧ D i = u

section
variable {n c s0 cnt u : Nat} {A : Nat → Prop} {D : Nat → Nat} {Mk : Nat → Int} {E : Nat → Nat → Prop}
theorem qi_start (hs : s0 < n) (hA : A s0) (hle : ∀ u, u < n → Mk u ≤ c) : QI n A c s0 1 (fun _ => s0) (fset Mk s0 ((c : Int) + 1)) :=
  ⟨by omega, rfl, fun i j h1 h2 => by omega, fun i hi => ⟨hs, hA⟩, fun u hu => by
    simp only [fset]
    split
    · omega
    · have := hle u hu; omega, fun i hi => fset_at _ _ _, fun u hu h => by
    by_cases e : u = s0
    · exact ⟨0, by omega, e.symm⟩
    · rw [fset_ne _ _ e] at h; have := hle u hu; omega⟩
theorem qi_add (h : QI n A c s0 cnt D Mk) (hu : u < n) (hA : A u) (hne : Mk u ≠ (c : Int) + 1) : QI n A c s0 (cnt + 1) (fset D cnt u) (fset Mk u ((c : Int) + 1)) := by
  have hp := h.pos
  have hD : ∀ i, i < cnt → D i ≠ u := fun i hi e => hne (by rw [← e]; exact h.m2 i hi)
  refine ⟨by omega, ?_, fun i j h1 h2 => ?_, fun i hi => ?_, fun v hv => ?_, fun i hi => ?_, fun v hv e => ?_⟩
  · rw [fset_ne _ _ (by omega)]; exact h.d0
  · rw [fset_ne _ _ (show i ≠ cnt by omega)]
    by_cases e : j = cnt
    · rw [e, fset_at]; exact hD i (by omega)
    · rw [fset_ne _ _ e]; exact h.inj i j h1 (by omega)
  · by_cases e : i = cnt
    · rw [e, fset_at]; exact ⟨hu, hA⟩
    · rw [fset_ne _ _ e]; exact h.mem i (by omega)
  · simp only [fset]
    split
    · omega
    · exact h.m1 v hv
  · by_cases e : i = cnt
    · rw [e, fset_at, fset_at]
    · rw [fset_ne _ _ e, fset_ne _ _ (hD i (by omega))]; exact h.m2 i (by omega)
  · by_cases e2 : v = u
    · exact ⟨cnt, by omega, by rw [fset_at, e2]⟩
    · rw [fset_ne _ _ e2] at e
      obtain ⟨i, h1, h2⟩ := h.m3 v hv e
      exact ⟨i, by omega, by rw [fset_ne _ _ (by omega)]; exact h2⟩
theorem qi_le (h : QI n A c s0 cnt D Mk) : cnt ≤ n := pigeon D (fun i hi => (h.mem i hi).1) h.inj
def Cl (E : Nat → Nat → Prop) (A : Nat → Prop) (cnt : Nat) (D : Nat → Nat) (i : Nat) : Prop := ∀ u, E (D i) u → A u → ∃ j, j < cnt ∧ D j = u
theorem cl_add {i : Nat} (h : Cl E A cnt D i) (hi : i < cnt) : Cl E A (cnt + 1) (fset D cnt u) i := fun v hv hA => by
  rw [fset_ne _ _ (show i ≠ cnt by omega)] at hv
  obtain ⟨j, h1, h2⟩ := h v hv hA
  exact ⟨j, by omega, by rw [fset_ne _ _ (by omega)]; exact h2⟩
theorem same_count {a b : Nat} (f g : Nat → Nat) (hf : ∀ i j, i < j → j < a → f i ≠ f j) (hfg : ∀ i, i < a → ∃ j, j < b ∧ g j = f i) : a ≤ b := by
  have hch : ∃ k : Nat → Nat, ∀ i, i < a → k i < b ∧ g (k i) = f i := by
    refine ⟨fun i => if hi : i < a then Classical.choose (hfg i hi) else 0, fun i hi => ?_⟩
    have := Classical.choose_spec (hfg i hi)
    simp only [hi, dif_pos]; exact this
  obtain ⟨k, hk⟩ := hch
  exact pigeon k (fun i hi => (hk i hi).1) (fun i j h1 h2 e => hf i j h1 h2 (by rw [← (hk i (by omega)).2, ← (hk j h2).2, e]))
theorem qi_end (h : QI n A c s0 cnt D Mk) (hcl : ∀ i, i < cnt → Cl E A cnt D i) {m : Nat} {cv : Nat → Nat} (hA : ∀ u, A u ↔ ∃ j, j < m ∧ cv j = u) (hcu : ∀ i j, i < j → j < m → cv i ≠ cv j) (hr : ∀ j, j < m → Rch E A s0 (cv j)) : cnt = m := by
  have h1 : cnt ≤ m := same_count D cv h.inj (fun i hi => (hA _).1 (h.mem i hi).2)
  have h2 : m ≤ cnt := same_count cv D hcu (fun j hj => hr j hj (fun z => ∃ i, i < cnt ∧ D i = z) ⟨0, h.pos, h.d0⟩ (fun a b ⟨i, hi, e⟩ ha hb hE => by
    subst e
    exact hcl i hi b hE hb))
  omega
theorem rch_flip {x y : Nat} (h : Rch E A x y) : Rch (fun a b => E b a) A y x :=
  h (fun z => Rch (fun a b => E b a) A z x) .refl (fun a b pa ha hb e => (Rch.refl.step hb ha e).trans pa)
end

/-- what the counts leave alone -/
structure Fr (wB w : World) (bm : Nat) (g : Option Nat) (w' : World) : Prop where
  below : Below wB.heap.size wB w'
  size : w.heap.size ≤ w'.heap.size
  frame : ∀ b, b < w.heap.size → b ≠ bm → g ≠ some b → w'.heap[b]? = w.heap[b]?
theorem Fr.grow {wB w w' w2 : World} {bm : Nat} {g r : Option Nat} (h : Fr wB w bm g w') (hg : w'.grownBy w2 r) (hr : ∀ b, r = some b → wB.heap.size ≤ b ∧ (b = bm ∨ g = some b ∨ w.heap.size ≤ b)) : Fr wB w bm g w2 :=
  ⟨below_grown h.below hg (Nat.le_refl _) (fun b e => (hr b e).1), Nat.le_trans h.size hg.size, fun b hb h1 h2 => by
    rw [hg.block b (Nat.lt_of_lt_of_le hb h.size) (fun e => by
      rcases (hr b e.symm).2 with h3 | h3 | h3
      · exact h1 h3
      · exact h2 h3
      · omega)]
    exact h.frame b hb h1 h2⟩

set_option maxHeartbeats 4000000 in
theorem forward_any {wB w : World} {vh vq : Value} {n n0 c bp bm s0 m : Nat} {L : Nat → Nat} {e : Nat → Nat → Nat} {V : Nat → Value} {P Mk : Nat → Int} {g : Option Nat} {F : Nat → Value} {A : Nat → Prop} {cv : Nat → Nat}
    (hB : Below wB.heap.size wB w) (hr : Rows2 wB vh n L (fun r i => (e r i : Int)) V) (hn : n ≤ 131072) (hL : ∀ r, r < n → L r ≤ 131072) (he : ∀ r i, r < n → i < L r → e r i < n)
    (hP : wB.rowIs bp 3 n (fun i => .int .i64 (P i))) (hbm : wB.heap.size ≤ bm) (hM : w.rowIs bm 3 n (fun i => .int .i64 (Mk i))) (hq : Own w g vq 3 1 n0 F) (hg : ∀ b, g = some b → wB.heap.size ≤ b ∧ b ≠ bm)
    (hPA : ∀ u, u < n → (P u = c ↔ A u)) (hle : ∀ u, u < n → Mk u ≤ c) (hs : s0 < n) (hAs : A s0) (hc : c ≤ 131072)
    (hA : ∀ u, A u ↔ ∃ j, j < m ∧ cv j = u) (hcu : ∀ i j, i < j → j < m → cv i ≠ cv j) (hR : ∀ j, j < m → Rch (Ed L e) A s0 (cv j)) :
    Calls Try.prog 14 #[vh, sl bp n, sl bm n, vq, .int .i64 c, .int .i64 s0] w (fun en w' => ∃ (vq' : Value) (g' : Option Nat) (F' : Nat → Value) (Mk' : Nat → Int), en = .returned (.tuple #[.int .i64 m, vq']) ∧ Fr wB w bm g w' ∧ w'.rowIs bm 3 n (fun i => .int .i64 (Mk' i)) ∧ (∀ u, u < n → Mk' u ≤ c + 1) ∧ Own w' g' vq' 3 1 m F' ∧ (∀ b, g' = some b → g = some b ∨ w.heap.size ≤ b)) := by
  obtain ⟨⟨a1, c1, rfl, hc1, hcell1⟩, hrow⟩ := hr
  obtain ⟨aq, cq, rfl, hcq, _⟩ := hq.val
  obtain ⟨b1, o1, rfl, hch⟩ := hcell1 (by omega)
  have hbml := hM.lt
  have gok : ∀ {g' : Option Nat}, (∀ b, g' = some b → g = some b ∨ w.heap.size ≤ b) → ∀ b, g' = some b → wB.heap.size ≤ b ∧ (b = bm ∨ g = some b ∨ w.heap.size ≤ b) ∧ b ≠ bm := fun h b eb => by
    rcases h b eb with h1 | h1
    · exact ⟨(hg b h1).1, Or.inr (Or.inl h1), (hg b h1).2⟩
    · exact ⟨by omega, Or.inr (Or.inr h1), by omega⟩
  refine calls Try.func14 rfl Try.ntmps14 (by simp) (fun ρ hρ => ?_)
  have h0 : ρ 0 = .slice (some ⟨b1, o1, none⟩) n c1 := hρ 0 (by simp)
  have h1 : ρ 1 = .slice (some ⟨bp, 0, none⟩) n n := hρ 1 (by simp)
  have h2 : ρ 2 = .slice (some ⟨bm, 0, none⟩) n n := hρ 2 (by simp)
  have h3 : ρ 3 = .slice aq n0 cq := hρ 3 (by simp)
  have h4 : ρ 4 = .int .i64 c := hρ 4 (by simp)
  have h5 : ρ 5 = .int .i64 s0 := hρ 5 (by simp)
  clear hρ
  refine G.sr rfl ?_
  simp (disch := omega) only [ln29, ln22, ln23, idx29, idx23, sc3, sc29, sl29hi, true_and, vc_move, vc_assign, vc_pick, vc_load, vc_store, vc_bin, vc_un, vc_idx, vc_fld, vc_nilc, vc_ext, vc_slice, vc_func, vc_box, vc_len, vc_min, vc_nil, vc_guard, gdO_yes, gdO_ft, gdO_tf, gdO_un, gslot_cons0, gslot_consS, Vc.put_some, Vc.put_none, ev_tmp, ev_const, ev_func, upd_apply, Nat.reduceEqDiff, ↓reduceIte, vO_some, loadV_ptr, addrV_ptr, nilV_ptr, pickV_bool, ext2_0, ext2_1, unV_not, minV_int, binX_int, binX_str, binV_eql, binV_neq, binV_lss, binV_leq, binV_gtr, binV_geq, binV_add, binV_sub, binV_mul, add_at, Int.toNat_natCast, Nat.zero_add, Nat.add_zero, List.map_cons, List.map_nil, List.toList_toArray, Option.map_some, Option.map_none, true_and, Bool.false_eq_true]
  refine G.sr rfl ?_
  simp (disch := omega) only [ln29, ln22, ln23, idx29, idx23, sc3, sc29, sl29hi, true_and, vc_move, vc_assign, vc_pick, vc_load, vc_store, vc_bin, vc_un, vc_idx, vc_fld, vc_nilc, vc_ext, vc_slice, vc_func, vc_box, vc_len, vc_min, vc_nil, vc_guard, gdO_yes, gdO_ft, gdO_tf, gdO_un, gslot_cons0, gslot_consS, Vc.put_some, Vc.put_none, ev_tmp, ev_const, ev_func, upd_apply, Nat.reduceEqDiff, ↓reduceIte, vO_some, loadV_ptr, addrV_ptr, nilV_ptr, pickV_bool, ext2_0, ext2_1, unV_not, minV_int, binX_int, binX_str, binV_eql, binV_neq, binV_lss, binV_leq, binV_gtr, binV_geq, binV_add, binV_sub, binV_mul, add_at, Int.toNat_natCast, Nat.zero_add, Nat.add_zero, List.map_cons, List.map_nil, List.toList_toArray, Option.map_some, Option.map_none, true_and, Bool.false_eq_true, h3, Int.toNat_zero]
  refine G.sr rfl ?_
  simp (disch := omega) only [ln29, ln22, ln23, idx29, idx23, sc3, sc29, sl29hi, true_and, vc_move, vc_assign, vc_pick, vc_load, vc_store, vc_bin, vc_un, vc_idx, vc_fld, vc_nilc, vc_ext, vc_slice, vc_func, vc_box, vc_len, vc_min, vc_nil, vc_guard, gdO_yes, gdO_ft, gdO_tf, gdO_un, gslot_cons0, gslot_consS, Vc.put_some, Vc.put_none, ev_tmp, ev_const, ev_func, upd_apply, Nat.reduceEqDiff, ↓reduceIte, vO_some, loadV_ptr, addrV_ptr, nilV_ptr, pickV_bool, ext2_0, ext2_1, unV_not, minV_int, binX_int, binX_str, binV_eql, binV_neq, binV_lss, binV_leq, binV_gtr, binV_geq, binV_add, binV_sub, binV_mul, add_at, Int.toNat_natCast, Nat.zero_add, Nat.add_zero, List.map_cons, List.map_nil, List.toList_toArray, Option.map_some, Option.map_none, true_and, Bool.false_eq_true, h5]
  refine vc_app1 em29 (hq.shrink (m := 0) (by omega)) el29 (by simp only [upd_apply, Nat.reduceEqDiff, ↓reduceIte, Vc.put_some, ev_tmp, ev_const, Int.natCast_add, Int.natCast_one, Int.natCast_zero] <;> rfl) rfl (by simp only [upd_apply, Nat.reduceEqDiff, ↓reduceIte, Vc.put_some, ev_tmp, ev_const, Int.natCast_add, Int.natCast_one, Int.natCast_zero] <;> rfl) (by omega) (by omega) (fun v1 w1 g1 ho1 hg1 hgs1 hne1 => ?_)
  simp (disch := omega) only [ln29, ln22, ln23, idx29, idx23, sc3, sc29, sl29hi, true_and, vc_move, vc_assign, vc_pick, vc_load, vc_store, vc_bin, vc_un, vc_idx, vc_fld, vc_nilc, vc_ext, vc_slice, vc_func, vc_box, vc_len, vc_min, vc_nil, vc_guard, gdO_yes, gdO_ft, gdO_tf, gdO_un, gslot_cons0, gslot_consS, Vc.put_some, Vc.put_none, ev_tmp, ev_const, ev_func, upd_apply, Nat.reduceEqDiff, ↓reduceIte, vO_some, loadV_ptr, addrV_ptr, nilV_ptr, pickV_bool, ext2_0, ext2_1, unV_not, minV_int, binX_int, binX_str, binV_eql, binV_neq, binV_lss, binV_leq, binV_gtr, binV_geq, binV_add, binV_sub, binV_mul, add_at, Int.toNat_natCast, Nat.zero_add, Nat.add_zero, List.map_cons, List.map_nil, List.toList_toArray, Option.map_some, Option.map_none, true_and, Bool.false_eq_true]
  have F1 : Fr wB w bm g w1 := Fr.grow ⟨hB, Nat.le_refl _, fun _ _ _ _ => rfl⟩ hg1 (fun b eb => ⟨(hg b eb).1, Or.inr (Or.inl eb)⟩)
  have M1 := rowIs_grown hM hg1 (fun e => (hg bm e.symm).2 rfl)
  refine G.sr rfl ?_
  simp (disch := omega) only [ln29, ln22, ln23, idx29, idx23, sc3, sc29, sl29hi, true_and, vc_move, vc_assign, vc_pick, vc_load, vc_store, vc_bin, vc_un, vc_idx, vc_fld, vc_nilc, vc_ext, vc_slice, vc_func, vc_box, vc_len, vc_min, vc_nil, vc_guard, gdO_yes, gdO_ft, gdO_tf, gdO_un, gslot_cons0, gslot_consS, Vc.put_some, Vc.put_none, ev_tmp, ev_const, ev_func, upd_apply, Nat.reduceEqDiff, ↓reduceIte, vO_some, loadV_ptr, addrV_ptr, nilV_ptr, pickV_bool, ext2_0, ext2_1, unV_not, minV_int, binX_int, binX_str, binV_eql, binV_neq, binV_lss, binV_leq, binV_gtr, binV_geq, binV_add, binV_sub, binV_mul, add_at, Int.toNat_natCast, Nat.zero_add, Nat.add_zero, List.map_cons, List.map_nil, List.toList_toArray, Option.map_some, Option.map_none, true_and, Bool.false_eq_true, h2, h4, h5]
  rw [stO_ok (by rw [M1.cell hs]; rfl) (M1.frozen _) rfl]
  simp (disch := omega) only [ln29, ln22, ln23, idx29, idx23, sc3, sc29, sl29hi, true_and, vc_move, vc_assign, vc_pick, vc_load, vc_store, vc_bin, vc_un, vc_idx, vc_fld, vc_nilc, vc_ext, vc_slice, vc_func, vc_box, vc_len, vc_min, vc_nil, vc_guard, gdO_yes, gdO_ft, gdO_tf, gdO_un, gslot_cons0, gslot_consS, Vc.put_some, Vc.put_none, ev_tmp, ev_const, ev_func, upd_apply, Nat.reduceEqDiff, ↓reduceIte, vO_some, loadV_ptr, addrV_ptr, nilV_ptr, pickV_bool, ext2_0, ext2_1, unV_not, minV_int, binX_int, binX_str, binV_eql, binV_neq, binV_lss, binV_leq, binV_gtr, binV_geq, binV_add, binV_sub, binV_mul, add_at, Int.toNat_natCast, Nat.zero_add, Nat.add_zero, List.map_cons, List.map_nil, List.toList_toArray, Option.map_some, Option.map_none, true_and, Bool.false_eq_true]
  have hgm := grown_set w1 bm s0 (.int .i64 ((c : Int) + 1))
  have F2 := F1.grow hgm (fun b eb => by cases eb; exact ⟨hbm, Or.inl rfl⟩)
  have M2 := (M1.set s0 (.int .i64 ((c : Int) + 1))).congr (g := fun i => .int .i64 (fset Mk s0 ((c : Int) + 1) i)) (fun i hi => by simp only [fset]; split <;> rfl)
  have O2 := own_grown (ho1.congr (F' := fun i => iN s0) (fun i hi => by rw [if_neg (by omega)]; rfl)) hgm (fun b eb => by have := (gok hgs1 b eb).2.2; simp; exact this)
  have Q2 : QI n A c s0 1 (fun _ => s0) (fset Mk s0 ((c : Int) + 1)) := qi_start hs hAs hle
  generalize w1.setCell ⟨bm, s0, none⟩ (.int .i64 ((c : Int) + 1)) = w2 at F2 M2 O2 ⊢
  clear F1 M1 ho1 hg1 hgm
  refine G.seq (G.sr rfl ?_)
  simp (disch := omega) only [ln29, ln22, ln23, idx29, idx23, sc3, sc29, sl29hi, true_and, vc_move, vc_assign, vc_pick, vc_load, vc_store, vc_bin, vc_un, vc_idx, vc_fld, vc_nilc, vc_ext, vc_slice, vc_func, vc_box, vc_len, vc_min, vc_nil, vc_guard, gdO_yes, gdO_ft, gdO_tf, gdO_un, gslot_cons0, gslot_consS, Vc.put_some, Vc.put_none, ev_tmp, ev_const, ev_func, upd_apply, Nat.reduceEqDiff, ↓reduceIte, vO_some, loadV_ptr, addrV_ptr, nilV_ptr, pickV_bool, ext2_0, ext2_1, unV_not, minV_int, binX_int, binX_str, binV_eql, binV_neq, binV_lss, binV_leq, binV_gtr, binV_geq, binV_add, binV_sub, binV_mul, add_at, Int.toNat_natCast, Nat.zero_add, Nat.add_zero, List.map_cons, List.map_nil, List.toList_toArray, Option.map_some, Option.map_none, true_and, Bool.false_eq_true]
  refine G.forLoop (fun q ρ' w' => ∃ (hd cnt : Nat) (D : Nat → Nat) (Mk : Nat → Int) (g' : Option Nat) (vq' : Value), q = n - hd ∧ hd ≤ cnt ∧ ρ' 0 = .slice (some ⟨b1, o1, none⟩) n c1 ∧ ρ' 1 = .slice (some ⟨bp, 0, none⟩) n n ∧ ρ' 2 = .slice (some ⟨bm, 0, none⟩) n n ∧ ρ' 3 = vq' ∧ ρ' 4 = .int .i64 c ∧ ρ' 14 = .int .i64 hd ∧
      Fr wB w bm g w' ∧ w'.rowIs bm 3 n (fun i => .int .i64 (Mk i)) ∧ Own w' g' vq' 3 1 cnt (fun i => iN (D i)) ∧ (∀ b, g' = some b → g = some b ∨ w.heap.size ≤ b) ∧ QI n A c s0 cnt D Mk ∧ ∀ i, i < hd → Cl (Ed L e) A cnt D i)
    (fun ρ' w' => ∃ (cnt : Nat) (D : Nat → Nat) (Mk : Nat → Int) (g' : Option Nat) (vq' : Value), ρ' 3 = vq' ∧
      Fr wB w bm g w' ∧ w'.rowIs bm 3 n (fun i => .int .i64 (Mk i)) ∧ Own w' g' vq' 3 1 cnt (fun i => iN (D i)) ∧ (∀ b, g' = some b → g = some b ∨ w.heap.size ≤ b) ∧ QI n A c s0 cnt D Mk ∧ ∀ i, i < cnt → Cl (Ed L e) A cnt D i) n ?_ ?_ ?_
  · exact ⟨0, 1, _, _, g1, v1, by omega, by omega, (by simp only [upd_apply, Nat.reduceEqDiff, ↓reduceIte, Vc.put_some, ev_tmp, ev_const, Int.natCast_add, Int.natCast_one, Int.natCast_zero, h0] <;> rfl), (by simp only [upd_apply, Nat.reduceEqDiff, ↓reduceIte, Vc.put_some, ev_tmp, ev_const, Int.natCast_add, Int.natCast_one, Int.natCast_zero, h1] <;> rfl), (by simp only [upd_apply, Nat.reduceEqDiff, ↓reduceIte, Vc.put_some, ev_tmp, ev_const, Int.natCast_add, Int.natCast_one, Int.natCast_zero, h2] <;> rfl), (by simp only [upd_apply, Nat.reduceEqDiff, ↓reduceIte, Vc.put_some, ev_tmp, ev_const, Int.natCast_add, Int.natCast_one, Int.natCast_zero] <;> rfl), (by simp only [upd_apply, Nat.reduceEqDiff, ↓reduceIte, Vc.put_some, ev_tmp, ev_const, Int.natCast_add, Int.natCast_one, Int.natCast_zero, h4] <;> rfl), (by simp only [upd_apply, Nat.reduceEqDiff, ↓reduceIte, Vc.put_some, ev_tmp, ev_const, Int.natCast_add, Int.natCast_one, Int.natCast_zero] <;> rfl), F2, M2, O2, hgs1, Q2, by omega⟩
  · clear F2 M2 O2 Q2 hgs1 hne1 h0 h1 h2 h3 h4 h5
    rintro q ρ' w' ⟨hd, cnt, D, Mk, g', vq', rfl, hdc, r0, r1, r2, r3, r4, r14, Fw, Mw, Ow, hgs, Q, hcl⟩ kL kX hround hx hpost
    have hcn := qi_le Q
    obtain ⟨aq', cq', rfl, hcq', hcellq⟩ := Ow.val
    refine G.seq (G.sr rfl ?_)
    simp (disch := omega) only [ln29, ln22, ln23, idx29, idx23, sc3, sc29, sl29hi, true_and, vc_move, vc_assign, vc_pick, vc_load, vc_store, vc_bin, vc_un, vc_idx, vc_fld, vc_nilc, vc_ext, vc_slice, vc_func, vc_box, vc_len, vc_min, vc_nil, vc_guard, gdO_yes, gdO_ft, gdO_tf, gdO_un, gslot_cons0, gslot_consS, Vc.put_some, Vc.put_none, ev_tmp, ev_const, ev_func, upd_apply, Nat.reduceEqDiff, ↓reduceIte, vO_some, loadV_ptr, addrV_ptr, nilV_ptr, pickV_bool, ext2_0, ext2_1, unV_not, minV_int, binX_int, binX_str, binV_eql, binV_neq, binV_lss, binV_leq, binV_gtr, binV_geq, binV_add, binV_sub, binV_mul, add_at, Int.toNat_natCast, Nat.zero_add, Nat.add_zero, List.map_cons, List.map_nil, List.toList_toArray, Option.map_some, Option.map_none, true_and, Bool.false_eq_true, r3, r14]
    refine G.condD (p := (hd : Int) < cnt) (by simp only [upd_apply, Nat.reduceEqDiff, ↓reduceIte, Vc.put_some, ev_tmp, ev_const, Int.natCast_add, Int.natCast_one, Int.natCast_zero] <;> rfl) (fun hlt => ?_) (fun hge => ?_)
    · have hhd : hd < cnt := by omega
      obtain ⟨bq, oq, rfl, rfl, hcqc, _⟩ := hcellq (by omega)
      simp only [Nat.mul_one] at hcqc
      have cq1 : w'.cell? ⟨bq, oq + hd, none⟩ = some (.int .i64 ((D hd : Nat) : Int)) := hcqc hd hhd
      obtain ⟨htn, hAt⟩ := Q.mem hd hhd
      obtain ⟨at', ct, eV, hct, hcellt⟩ := hrow (D hd) htn
      have k1 : w'.cell? ⟨b1, o1 + D hd, none⟩ = some (.slice at' (L (D hd)) ct) := by rw [← eV]; exact below_keep' Fw.below _ _ (hch _ htn)
      have hLt := hL _ htn
      refine G.skip (G.seq (G.block (G.sr rfl ?_)))
      simp (disch := omega) only [ln29, ln22, ln23, idx29, idx23, sc3, sc29, sl29hi, true_and, vc_move, vc_assign, vc_pick, vc_load, vc_store, vc_bin, vc_un, vc_idx, vc_fld, vc_nilc, vc_ext, vc_slice, vc_func, vc_box, vc_len, vc_min, vc_nil, vc_guard, gdO_yes, gdO_ft, gdO_tf, gdO_un, gslot_cons0, gslot_consS, Vc.put_some, Vc.put_none, ev_tmp, ev_const, ev_func, upd_apply, Nat.reduceEqDiff, ↓reduceIte, vO_some, loadV_ptr, addrV_ptr, nilV_ptr, pickV_bool, ext2_0, ext2_1, unV_not, minV_int, binX_int, binX_str, binV_eql, binV_neq, binV_lss, binV_leq, binV_gtr, binV_geq, binV_add, binV_sub, binV_mul, add_at, Int.toNat_natCast, Nat.zero_add, Nat.add_zero, List.map_cons, List.map_nil, List.toList_toArray, Option.map_some, Option.map_none, true_and, Bool.false_eq_true, r3, r14, cq1]
      refine G.sr rfl ?_
      simp (disch := omega) only [ln29, ln22, ln23, idx29, idx23, sc3, sc29, sl29hi, true_and, vc_move, vc_assign, vc_pick, vc_load, vc_store, vc_bin, vc_un, vc_idx, vc_fld, vc_nilc, vc_ext, vc_slice, vc_func, vc_box, vc_len, vc_min, vc_nil, vc_guard, gdO_yes, gdO_ft, gdO_tf, gdO_un, gslot_cons0, gslot_consS, Vc.put_some, Vc.put_none, ev_tmp, ev_const, ev_func, upd_apply, Nat.reduceEqDiff, ↓reduceIte, vO_some, loadV_ptr, addrV_ptr, nilV_ptr, pickV_bool, ext2_0, ext2_1, unV_not, minV_int, binX_int, binX_str, binV_eql, binV_neq, binV_lss, binV_leq, binV_gtr, binV_geq, binV_add, binV_sub, binV_mul, add_at, Int.toNat_natCast, Nat.zero_add, Nat.add_zero, List.map_cons, List.map_nil, List.toList_toArray, Option.map_some, Option.map_none, true_and, Bool.false_eq_true, r0, k1]
      refine G.sr rfl ?_
      simp (disch := omega) only [ln29, ln22, ln23, idx29, idx23, sc3, sc29, sl29hi, true_and, vc_move, vc_assign, vc_pick, vc_load, vc_store, vc_bin, vc_un, vc_idx, vc_fld, vc_nilc, vc_ext, vc_slice, vc_func, vc_box, vc_len, vc_min, vc_nil, vc_guard, gdO_yes, gdO_ft, gdO_tf, gdO_un, gslot_cons0, gslot_consS, Vc.put_some, Vc.put_none, ev_tmp, ev_const, ev_func, upd_apply, Nat.reduceEqDiff, ↓reduceIte, vO_some, loadV_ptr, addrV_ptr, nilV_ptr, pickV_bool, ext2_0, ext2_1, unV_not, minV_int, binX_int, binX_str, binV_eql, binV_neq, binV_lss, binV_leq, binV_gtr, binV_geq, binV_add, binV_sub, binV_mul, add_at, Int.toNat_natCast, Nat.zero_add, Nat.add_zero, List.map_cons, List.map_nil, List.toList_toArray, Option.map_some, Option.map_none, true_and, Bool.false_eq_true]
      generalize hDt : D hd = t at *
      refine G.forLoop (fun q ρ' w' => ∃ (i cnt : Nat) (D : Nat → Nat) (Mk : Nat → Int) (g' : Option Nat) (vq' : Value), q = L t - i ∧ i ≤ L t ∧ hd < cnt ∧ D hd = t ∧ ρ' 0 = .slice (some ⟨b1, o1, none⟩) n c1 ∧ ρ' 1 = .slice (some ⟨bp, 0, none⟩) n n ∧ ρ' 2 = .slice (some ⟨bm, 0, none⟩) n n ∧ ρ' 3 = vq' ∧ ρ' 4 = .int .i64 c ∧ ρ' 14 = .int .i64 hd ∧ ρ' 16 = .slice at' (L t) ct ∧ ρ' 17 = .int .i64 i ∧
          Fr wB w bm g w' ∧ w'.rowIs bm 3 n (fun i => .int .i64 (Mk i)) ∧ Own w' g' vq' 3 1 cnt (fun i => iN (D i)) ∧ (∀ b, g' = some b → g = some b ∨ w.heap.size ≤ b) ∧ QI n A c s0 cnt D Mk ∧ (∀ i, i < hd → Cl (Ed L e) A cnt D i) ∧ ∀ j, j < i → A (e t j) → ∃ k, k < cnt ∧ D k = e t j)
        (fun ρ' w' => ∃ (cnt : Nat) (D : Nat → Nat) (Mk : Nat → Int) (g' : Option Nat) (vq' : Value), hd < cnt ∧ D hd = t ∧ ρ' 0 = .slice (some ⟨b1, o1, none⟩) n c1 ∧ ρ' 1 = .slice (some ⟨bp, 0, none⟩) n n ∧ ρ' 2 = .slice (some ⟨bm, 0, none⟩) n n ∧ ρ' 3 = vq' ∧ ρ' 4 = .int .i64 c ∧ ρ' 14 = .int .i64 hd ∧
          Fr wB w bm g w' ∧ w'.rowIs bm 3 n (fun i => .int .i64 (Mk i)) ∧ Own w' g' vq' 3 1 cnt (fun i => iN (D i)) ∧ (∀ b, g' = some b → g = some b ∨ w.heap.size ≤ b) ∧ QI n A c s0 cnt D Mk ∧ (∀ i, i < hd → Cl (Ed L e) A cnt D i) ∧ ∀ j, j < L t → A (e t j) → ∃ k, k < cnt ∧ D k = e t j) (L t) ?_ ?_ ?_
      · exact ⟨0, cnt, D, Mk, _, _, by omega, by omega, hhd, hDt, (by simp only [upd_apply, Nat.reduceEqDiff, ↓reduceIte, Vc.put_some, ev_tmp, ev_const, Int.natCast_add, Int.natCast_one, Int.natCast_zero, r0] <;> rfl), (by simp only [upd_apply, Nat.reduceEqDiff, ↓reduceIte, Vc.put_some, ev_tmp, ev_const, Int.natCast_add, Int.natCast_one, Int.natCast_zero, r1] <;> rfl), (by simp only [upd_apply, Nat.reduceEqDiff, ↓reduceIte, Vc.put_some, ev_tmp, ev_const, Int.natCast_add, Int.natCast_one, Int.natCast_zero, r2] <;> rfl), (by simp only [upd_apply, Nat.reduceEqDiff, ↓reduceIte, Vc.put_some, ev_tmp, ev_const, Int.natCast_add, Int.natCast_one, Int.natCast_zero, r3] <;> rfl), (by simp only [upd_apply, Nat.reduceEqDiff, ↓reduceIte, Vc.put_some, ev_tmp, ev_const, Int.natCast_add, Int.natCast_one, Int.natCast_zero, r4] <;> rfl), (by simp only [upd_apply, Nat.reduceEqDiff, ↓reduceIte, Vc.put_some, ev_tmp, ev_const, Int.natCast_add, Int.natCast_one, Int.natCast_zero, r14] <;> rfl), (by simp only [upd_apply, Nat.reduceEqDiff, ↓reduceIte, Vc.put_some, ev_tmp, ev_const, Int.natCast_add, Int.natCast_one, Int.natCast_zero] <;> rfl), (by simp only [upd_apply, Nat.reduceEqDiff, ↓reduceIte, Vc.put_some, ev_tmp, ev_const, Int.natCast_add, Int.natCast_one, Int.natCast_zero] <;> rfl), Fw, Mw, Ow, hgs, Q, hcl, by omega⟩
      · clear Fw Mw Ow hgs Q hcl r0 r1 r2 r3 r4 r14 hcqc cq1 k1 hhd hDt hdc hcn hcq' hcellq hlt
        rintro q ρ2 w2 ⟨i, cnt, D, Mk, g', vq', rfl, hi, hhd, hDt, r0, r1, r2, r3, r4, r14, r16, r17, Fw, Mw, Ow, hgs, Q, hcl, hnb⟩ kL2 kX2 hround2 hx2 hpost2
        refine G.seq (G.sr rfl ?_)
        simp (disch := omega) only [ln29, ln22, ln23, idx29, idx23, sc3, sc29, sl29hi, true_and, vc_move, vc_assign, vc_pick, vc_load, vc_store, vc_bin, vc_un, vc_idx, vc_fld, vc_nilc, vc_ext, vc_slice, vc_func, vc_box, vc_len, vc_min, vc_nil, vc_guard, gdO_yes, gdO_ft, gdO_tf, gdO_un, gslot_cons0, gslot_consS, Vc.put_some, Vc.put_none, ev_tmp, ev_const, ev_func, upd_apply, Nat.reduceEqDiff, ↓reduceIte, vO_some, loadV_ptr, addrV_ptr, nilV_ptr, pickV_bool, ext2_0, ext2_1, unV_not, minV_int, binX_int, binX_str, binV_eql, binV_neq, binV_lss, binV_leq, binV_gtr, binV_geq, binV_add, binV_sub, binV_mul, add_at, Int.toNat_natCast, Nat.zero_add, Nat.add_zero, List.map_cons, List.map_nil, List.toList_toArray, Option.map_some, Option.map_none, true_and, Bool.false_eq_true, r16, r17]
        refine G.condD (p := (i : Int) < L t) (by simp only [upd_apply, Nat.reduceEqDiff, ↓reduceIte, Vc.put_some, ev_tmp, ev_const, Int.natCast_add, Int.natCast_one, Int.natCast_zero] <;> rfl) (fun hlt2 => ?_) (fun hge2 => ?_)
        · have hit : i < L t := by omega
          obtain ⟨bt, ot, rfl, hcr⟩ := hcellt (by omega)
          have ci : w2.cell? ⟨bt, ot + i, none⟩ = some (.int .i64 ((e t i : Nat) : Int)) := below_keep' Fw.below _ _ (hcr i hit)
          have hun := he t i htn hit
          have cP : w2.cell? ⟨bp, e t i, none⟩ = some (.int .i64 (P (e t i))) := below_keep' Fw.below _ _ (hP.cell hun)
          have cM : w2.cell? ⟨bm, e t i, none⟩ = some (.int .i64 (Mk (e t i))) := Mw.cell hun
          have next : (A (e t i) → ∃ k, k < cnt ∧ D k = e t i) → ∀ j, j < i + 1 → A (e t j) → ∃ k, k < cnt ∧ D k = e t j := fun h j hj hA => by
            by_cases ej : j = i
            · subst ej; exact h hA
            · exact hnb j (by omega) hA
          refine G.skip (G.seq (G.block (G.sr rfl ?_)))
          simp (disch := omega) only [ln29, ln22, ln23, idx29, idx23, sc3, sc29, sl29hi, true_and, vc_move, vc_assign, vc_pick, vc_load, vc_store, vc_bin, vc_un, vc_idx, vc_fld, vc_nilc, vc_ext, vc_slice, vc_func, vc_box, vc_len, vc_min, vc_nil, vc_guard, gdO_yes, gdO_ft, gdO_tf, gdO_un, gslot_cons0, gslot_consS, Vc.put_some, Vc.put_none, ev_tmp, ev_const, ev_func, upd_apply, Nat.reduceEqDiff, ↓reduceIte, vO_some, loadV_ptr, addrV_ptr, nilV_ptr, pickV_bool, ext2_0, ext2_1, unV_not, minV_int, binX_int, binX_str, binV_eql, binV_neq, binV_lss, binV_leq, binV_gtr, binV_geq, binV_add, binV_sub, binV_mul, add_at, Int.toNat_natCast, Nat.zero_add, Nat.add_zero, List.map_cons, List.map_nil, List.toList_toArray, Option.map_some, Option.map_none, true_and, Bool.false_eq_true, r16, r17, ci]
          refine G.sr rfl ?_
          by_cases hPu : P (e t i) = c
          · have e1 : (P (e t i) == (c : Int)) = true := by simp [hPu]
            simp (disch := omega) only [ln29, ln22, ln23, idx29, idx23, sc3, sc29, sl29hi, true_and, vc_move, vc_assign, vc_pick, vc_load, vc_store, vc_bin, vc_un, vc_idx, vc_fld, vc_nilc, vc_ext, vc_slice, vc_func, vc_box, vc_len, vc_min, vc_nil, vc_guard, gdO_yes, gdO_ft, gdO_tf, gdO_un, gslot_cons0, gslot_consS, Vc.put_some, Vc.put_none, ev_tmp, ev_const, ev_func, upd_apply, Nat.reduceEqDiff, ↓reduceIte, vO_some, loadV_ptr, addrV_ptr, nilV_ptr, pickV_bool, ext2_0, ext2_1, unV_not, minV_int, binX_int, binX_str, binV_eql, binV_neq, binV_lss, binV_leq, binV_gtr, binV_geq, binV_add, binV_sub, binV_mul, add_at, Int.toNat_natCast, Nat.zero_add, Nat.add_zero, List.map_cons, List.map_nil, List.toList_toArray, Option.map_some, Option.map_none, true_and, Bool.false_eq_true, r1, r2, r4, cP, e1, cM]
            refine G.condNe (by simp only [upd_apply, Nat.reduceEqDiff, ↓reduceIte, Vc.put_some, ev_tmp, ev_const, Int.natCast_add, Int.natCast_one, Int.natCast_zero] <;> rfl) (fun hne => G.sr rfl ?_) (fun heq => G.skip (G.inBlock (G.rg rfl ?_)))
            · simp (disch := omega) only [ln29, ln22, ln23, idx29, idx23, sc3, sc29, sl29hi, true_and, vc_move, vc_assign, vc_pick, vc_load, vc_store, vc_bin, vc_un, vc_idx, vc_fld, vc_nilc, vc_ext, vc_slice, vc_func, vc_box, vc_len, vc_min, vc_nil, vc_guard, gdO_yes, gdO_ft, gdO_tf, gdO_un, gslot_cons0, gslot_consS, Vc.put_some, Vc.put_none, ev_tmp, ev_const, ev_func, upd_apply, Nat.reduceEqDiff, ↓reduceIte, vO_some, loadV_ptr, addrV_ptr, nilV_ptr, pickV_bool, ext2_0, ext2_1, unV_not, minV_int, binX_int, binX_str, binV_eql, binV_neq, binV_lss, binV_leq, binV_gtr, binV_geq, binV_add, binV_sub, binV_mul, add_at, Int.toNat_natCast, Nat.zero_add, Nat.add_zero, List.map_cons, List.map_nil, List.toList_toArray, Option.map_some, Option.map_none, true_and, Bool.false_eq_true, r2, r4]
              rw [stO_ok (by rw [cM]; rfl) (Mw.frozen _) rfl]
              simp (disch := omega) only [ln29, ln22, ln23, idx29, idx23, sc3, sc29, sl29hi, true_and, vc_move, vc_assign, vc_pick, vc_load, vc_store, vc_bin, vc_un, vc_idx, vc_fld, vc_nilc, vc_ext, vc_slice, vc_func, vc_box, vc_len, vc_min, vc_nil, vc_guard, gdO_yes, gdO_ft, gdO_tf, gdO_un, gslot_cons0, gslot_consS, Vc.put_some, Vc.put_none, ev_tmp, ev_const, ev_func, upd_apply, Nat.reduceEqDiff, ↓reduceIte, vO_some, loadV_ptr, addrV_ptr, nilV_ptr, pickV_bool, ext2_0, ext2_1, unV_not, minV_int, binX_int, binX_str, binV_eql, binV_neq, binV_lss, binV_leq, binV_gtr, binV_geq, binV_add, binV_sub, binV_mul, add_at, Int.toNat_natCast, Nat.zero_add, Nat.add_zero, List.map_cons, List.map_nil, List.toList_toArray, Option.map_some, Option.map_none, true_and, Bool.false_eq_true]
              have hgm := grown_set w2 bm (e t i) (.int .i64 ((c : Int) + 1))
              have F3 := Fw.grow hgm (fun b eb => by cases eb; exact ⟨hbm, Or.inl rfl⟩)
              have M3 := (Mw.set (e t i) (.int .i64 ((c : Int) + 1))).congr (g := fun j => .int .i64 (fset Mk (e t i) ((c : Int) + 1) j)) (fun j hj => by simp only [fset]; split <;> rfl)
              have O3 := own_grown Ow hgm (fun b eb => by have := (gok hgs b eb).2.2; simp; exact this)
              have hcn := qi_le Q
              generalize w2.setCell ⟨bm, e t i, none⟩ (.int .i64 ((c : Int) + 1)) = w3 at F3 M3 O3 ⊢
              refine G.rg rfl ?_
              simp (disch := omega) only [ln29, ln22, ln23, idx29, idx23, sc3, sc29, sl29hi, true_and, vc_move, vc_assign, vc_pick, vc_load, vc_store, vc_bin, vc_un, vc_idx, vc_fld, vc_nilc, vc_ext, vc_slice, vc_func, vc_box, vc_len, vc_min, vc_nil, vc_guard, gdO_yes, gdO_ft, gdO_tf, gdO_un, gslot_cons0, gslot_consS, Vc.put_some, Vc.put_none, ev_tmp, ev_const, ev_func, upd_apply, Nat.reduceEqDiff, ↓reduceIte, vO_some, loadV_ptr, addrV_ptr, nilV_ptr, pickV_bool, ext2_0, ext2_1, unV_not, minV_int, binX_int, binX_str, binV_eql, binV_neq, binV_lss, binV_leq, binV_gtr, binV_geq, binV_add, binV_sub, binV_mul, add_at, Int.toNat_natCast, Nat.zero_add, Nat.add_zero, List.map_cons, List.map_nil, List.toList_toArray, Option.map_some, Option.map_none, true_and, Bool.false_eq_true, r3]
              refine vc_app1 em29 O3 el29 (by simp only [upd_apply, Nat.reduceEqDiff, ↓reduceIte, Vc.put_some, ev_tmp, ev_const, Int.natCast_add, Int.natCast_one, Int.natCast_zero] <;> rfl) rfl (by simp only [upd_apply, Nat.reduceEqDiff, ↓reduceIte, Vc.put_some, ev_tmp, ev_const, Int.natCast_add, Int.natCast_one, Int.natCast_zero] <;> rfl) (by omega) (by omega) (fun v4 w4 g4 ho4 hg4 hgs4 hne4 => ?_)
              simp (disch := omega) only [ln29, ln22, ln23, idx29, idx23, sc3, sc29, sl29hi, true_and, vc_move, vc_assign, vc_pick, vc_load, vc_store, vc_bin, vc_un, vc_idx, vc_fld, vc_nilc, vc_ext, vc_slice, vc_func, vc_box, vc_len, vc_min, vc_nil, vc_guard, gdO_yes, gdO_ft, gdO_tf, gdO_un, gslot_cons0, gslot_consS, Vc.put_some, Vc.put_none, ev_tmp, ev_const, ev_func, upd_apply, Nat.reduceEqDiff, ↓reduceIte, vO_some, loadV_ptr, addrV_ptr, nilV_ptr, pickV_bool, ext2_0, ext2_1, unV_not, minV_int, binX_int, binX_str, binV_eql, binV_neq, binV_lss, binV_leq, binV_gtr, binV_geq, binV_add, binV_sub, binV_mul, add_at, Int.toNat_natCast, Nat.zero_add, Nat.add_zero, List.map_cons, List.map_nil, List.toList_toArray, Option.map_some, Option.map_none, true_and, Bool.false_eq_true]
              have F4 := F3.grow hg4 (fun b eb => ⟨(gok hgs b eb).1, (gok hgs b eb).2.1⟩)
              have M4 := rowIs_grown M3 hg4 (fun eb => (gok hgs bm eb.symm).2.2 rfl)
              have O4 := ho4.congr (F' := fun j => iN (fset D cnt (e t i) j)) (fun j hj => by
                simp only [fset]
                by_cases ej : j = cnt
                · rw [if_neg (by omega), if_pos ej]; rfl
                · rw [if_pos (by omega), if_neg ej])
              have Q4 := qi_add Q hun ((hPA _ hun).1 hPu) hne
              refine G.inBlock (G.rg rfl ?_)
              simp (disch := omega) only [ln29, ln22, ln23, idx29, idx23, sc3, sc29, sl29hi, true_and, vc_move, vc_assign, vc_pick, vc_load, vc_store, vc_bin, vc_un, vc_idx, vc_fld, vc_nilc, vc_ext, vc_slice, vc_func, vc_box, vc_len, vc_min, vc_nil, vc_guard, gdO_yes, gdO_ft, gdO_tf, gdO_un, gslot_cons0, gslot_consS, Vc.put_some, Vc.put_none, ev_tmp, ev_const, ev_func, upd_apply, Nat.reduceEqDiff, ↓reduceIte, vO_some, loadV_ptr, addrV_ptr, nilV_ptr, pickV_bool, ext2_0, ext2_1, unV_not, minV_int, binX_int, binX_str, binV_eql, binV_neq, binV_lss, binV_leq, binV_gtr, binV_geq, binV_add, binV_sub, binV_mul, add_at, Int.toNat_natCast, Nat.zero_add, Nat.add_zero, List.map_cons, List.map_nil, List.toList_toArray, Option.map_some, Option.map_none, true_and, Bool.false_eq_true, r17]
              refine hround2 (L t - (i + 1)) _ _ (by omega) ⟨i + 1, cnt + 1, _, _, g4, v4, rfl, by omega, by omega, by rw [fset_ne _ _ (by omega)]; exact hDt, (by simp only [upd_apply, Nat.reduceEqDiff, ↓reduceIte, Vc.put_some, ev_tmp, ev_const, Int.natCast_add, Int.natCast_one, Int.natCast_zero, r0] <;> rfl), (by simp only [upd_apply, Nat.reduceEqDiff, ↓reduceIte, Vc.put_some, ev_tmp, ev_const, Int.natCast_add, Int.natCast_one, Int.natCast_zero, r1] <;> rfl), (by simp only [upd_apply, Nat.reduceEqDiff, ↓reduceIte, Vc.put_some, ev_tmp, ev_const, Int.natCast_add, Int.natCast_one, Int.natCast_zero, r2] <;> rfl), (by simp only [upd_apply, Nat.reduceEqDiff, ↓reduceIte, Vc.put_some, ev_tmp, ev_const, Int.natCast_add, Int.natCast_one, Int.natCast_zero] <;> rfl), (by simp only [upd_apply, Nat.reduceEqDiff, ↓reduceIte, Vc.put_some, ev_tmp, ev_const, Int.natCast_add, Int.natCast_one, Int.natCast_zero, r4] <;> rfl), (by simp only [upd_apply, Nat.reduceEqDiff, ↓reduceIte, Vc.put_some, ev_tmp, ev_const, Int.natCast_add, Int.natCast_one, Int.natCast_zero, r14] <;> rfl), (by simp only [upd_apply, Nat.reduceEqDiff, ↓reduceIte, Vc.put_some, ev_tmp, ev_const, Int.natCast_add, Int.natCast_one, Int.natCast_zero, r16] <;> rfl), (by simp only [upd_apply, Nat.reduceEqDiff, ↓reduceIte, Vc.put_some, ev_tmp, ev_const, Int.natCast_add, Int.natCast_one, Int.natCast_zero] <;> rfl), F4, M4, O4, fun b eb => ?_, Q4, fun j hj => cl_add (hcl j hj) (by omega), fun j hj hA => ?_⟩
              · rcases hgs4 b eb with h | h
                · exact hgs b h
                · have := F3.size; exact Or.inr (by omega)
              · by_cases ej : j = i
                · subst ej; exact ⟨cnt, by omega, fset_at _ _ _⟩
                · obtain ⟨k, h1, h2⟩ := hnb j (by omega) hA
                  exact ⟨k, by omega, by rw [fset_ne _ _ (by omega)]; exact h2⟩
            · simp (disch := omega) only [ln29, ln22, ln23, idx29, idx23, sc3, sc29, sl29hi, true_and, vc_move, vc_assign, vc_pick, vc_load, vc_store, vc_bin, vc_un, vc_idx, vc_fld, vc_nilc, vc_ext, vc_slice, vc_func, vc_box, vc_len, vc_min, vc_nil, vc_guard, gdO_yes, gdO_ft, gdO_tf, gdO_un, gslot_cons0, gslot_consS, Vc.put_some, Vc.put_none, ev_tmp, ev_const, ev_func, upd_apply, Nat.reduceEqDiff, ↓reduceIte, vO_some, loadV_ptr, addrV_ptr, nilV_ptr, pickV_bool, ext2_0, ext2_1, unV_not, minV_int, binX_int, binX_str, binV_eql, binV_neq, binV_lss, binV_leq, binV_gtr, binV_geq, binV_add, binV_sub, binV_mul, add_at, Int.toNat_natCast, Nat.zero_add, Nat.add_zero, List.map_cons, List.map_nil, List.toList_toArray, Option.map_some, Option.map_none, true_and, Bool.false_eq_true, r17]
              exact hround2 (L t - (i + 1)) _ _ (by omega) ⟨i + 1, cnt, D, Mk, g', vq', rfl, by omega, hhd, hDt, (by simp only [upd_apply, Nat.reduceEqDiff, ↓reduceIte, Vc.put_some, ev_tmp, ev_const, Int.natCast_add, Int.natCast_one, Int.natCast_zero, r0] <;> rfl), (by simp only [upd_apply, Nat.reduceEqDiff, ↓reduceIte, Vc.put_some, ev_tmp, ev_const, Int.natCast_add, Int.natCast_one, Int.natCast_zero, r1] <;> rfl), (by simp only [upd_apply, Nat.reduceEqDiff, ↓reduceIte, Vc.put_some, ev_tmp, ev_const, Int.natCast_add, Int.natCast_one, Int.natCast_zero, r2] <;> rfl), (by simp only [upd_apply, Nat.reduceEqDiff, ↓reduceIte, Vc.put_some, ev_tmp, ev_const, Int.natCast_add, Int.natCast_one, Int.natCast_zero, r3] <;> rfl), (by simp only [upd_apply, Nat.reduceEqDiff, ↓reduceIte, Vc.put_some, ev_tmp, ev_const, Int.natCast_add, Int.natCast_one, Int.natCast_zero, r4] <;> rfl), (by simp only [upd_apply, Nat.reduceEqDiff, ↓reduceIte, Vc.put_some, ev_tmp, ev_const, Int.natCast_add, Int.natCast_one, Int.natCast_zero, r14] <;> rfl), (by simp only [upd_apply, Nat.reduceEqDiff, ↓reduceIte, Vc.put_some, ev_tmp, ev_const, Int.natCast_add, Int.natCast_one, Int.natCast_zero, r16] <;> rfl), (by simp only [upd_apply, Nat.reduceEqDiff, ↓reduceIte, Vc.put_some, ev_tmp, ev_const, Int.natCast_add, Int.natCast_one, Int.natCast_zero] <;> rfl), Fw, Mw, Ow, hgs, Q, hcl, next (fun _ => Q.m3 _ hun heq)⟩
          · have e1 : (P (e t i) == (c : Int)) = false := by simp [hPu]
            simp (disch := omega) only [ln29, ln22, ln23, idx29, idx23, sc3, sc29, sl29hi, true_and, vc_move, vc_assign, vc_pick, vc_load, vc_store, vc_bin, vc_un, vc_idx, vc_fld, vc_nilc, vc_ext, vc_slice, vc_func, vc_box, vc_len, vc_min, vc_nil, vc_guard, gdO_yes, gdO_ft, gdO_tf, gdO_un, gslot_cons0, gslot_consS, Vc.put_some, Vc.put_none, ev_tmp, ev_const, ev_func, upd_apply, Nat.reduceEqDiff, ↓reduceIte, vO_some, loadV_ptr, addrV_ptr, nilV_ptr, pickV_bool, ext2_0, ext2_1, unV_not, minV_int, binX_int, binX_str, binV_eql, binV_neq, binV_lss, binV_leq, binV_gtr, binV_geq, binV_add, binV_sub, binV_mul, add_at, Int.toNat_natCast, Nat.zero_add, Nat.add_zero, List.map_cons, List.map_nil, List.toList_toArray, Option.map_some, Option.map_none, true_and, Bool.false_eq_true, r1, r2, r4, cP, e1]
            refine G.condF (by simp only [upd_apply, Nat.reduceEqDiff, ↓reduceIte, Vc.put_some, ev_tmp, ev_const, Int.natCast_add, Int.natCast_one, Int.natCast_zero] <;> rfl) (G.skip (G.inBlock (G.rg rfl ?_)))
            simp (disch := omega) only [ln29, ln22, ln23, idx29, idx23, sc3, sc29, sl29hi, true_and, vc_move, vc_assign, vc_pick, vc_load, vc_store, vc_bin, vc_un, vc_idx, vc_fld, vc_nilc, vc_ext, vc_slice, vc_func, vc_box, vc_len, vc_min, vc_nil, vc_guard, gdO_yes, gdO_ft, gdO_tf, gdO_un, gslot_cons0, gslot_consS, Vc.put_some, Vc.put_none, ev_tmp, ev_const, ev_func, upd_apply, Nat.reduceEqDiff, ↓reduceIte, vO_some, loadV_ptr, addrV_ptr, nilV_ptr, pickV_bool, ext2_0, ext2_1, unV_not, minV_int, binX_int, binX_str, binV_eql, binV_neq, binV_lss, binV_leq, binV_gtr, binV_geq, binV_add, binV_sub, binV_mul, add_at, Int.toNat_natCast, Nat.zero_add, Nat.add_zero, List.map_cons, List.map_nil, List.toList_toArray, Option.map_some, Option.map_none, true_and, Bool.false_eq_true, r17]
            exact hround2 (L t - (i + 1)) _ _ (by omega) ⟨i + 1, cnt, D, Mk, g', vq', rfl, by omega, hhd, hDt, (by simp only [upd_apply, Nat.reduceEqDiff, ↓reduceIte, Vc.put_some, ev_tmp, ev_const, Int.natCast_add, Int.natCast_one, Int.natCast_zero, r0] <;> rfl), (by simp only [upd_apply, Nat.reduceEqDiff, ↓reduceIte, Vc.put_some, ev_tmp, ev_const, Int.natCast_add, Int.natCast_one, Int.natCast_zero, r1] <;> rfl), (by simp only [upd_apply, Nat.reduceEqDiff, ↓reduceIte, Vc.put_some, ev_tmp, ev_const, Int.natCast_add, Int.natCast_one, Int.natCast_zero, r2] <;> rfl), (by simp only [upd_apply, Nat.reduceEqDiff, ↓reduceIte, Vc.put_some, ev_tmp, ev_const, Int.natCast_add, Int.natCast_one, Int.natCast_zero, r3] <;> rfl), (by simp only [upd_apply, Nat.reduceEqDiff, ↓reduceIte, Vc.put_some, ev_tmp, ev_const, Int.natCast_add, Int.natCast_one, Int.natCast_zero, r4] <;> rfl), (by simp only [upd_apply, Nat.reduceEqDiff, ↓reduceIte, Vc.put_some, ev_tmp, ev_const, Int.natCast_add, Int.natCast_one, Int.natCast_zero, r14] <;> rfl), (by simp only [upd_apply, Nat.reduceEqDiff, ↓reduceIte, Vc.put_some, ev_tmp, ev_const, Int.natCast_add, Int.natCast_one, Int.natCast_zero, r16] <;> rfl), (by simp only [upd_apply, Nat.reduceEqDiff, ↓reduceIte, Vc.put_some, ev_tmp, ev_const, Int.natCast_add, Int.natCast_one, Int.natCast_zero] <;> rfl), Fw, Mw, Ow, hgs, Q, hcl, next (fun h => absurd ((hPA _ hun).2 h) hPu)⟩
        · have hie : i = L t := by omega
          subst hie
          exact G.exit hx2 (hpost2 _ _ ⟨cnt, D, Mk, g', vq', hhd, hDt, (by simp only [upd_apply, Nat.reduceEqDiff, ↓reduceIte, Vc.put_some, ev_tmp, ev_const, Int.natCast_add, Int.natCast_one, Int.natCast_zero, r0] <;> rfl), (by simp only [upd_apply, Nat.reduceEqDiff, ↓reduceIte, Vc.put_some, ev_tmp, ev_const, Int.natCast_add, Int.natCast_one, Int.natCast_zero, r1] <;> rfl), (by simp only [upd_apply, Nat.reduceEqDiff, ↓reduceIte, Vc.put_some, ev_tmp, ev_const, Int.natCast_add, Int.natCast_one, Int.natCast_zero, r2] <;> rfl), (by simp only [upd_apply, Nat.reduceEqDiff, ↓reduceIte, Vc.put_some, ev_tmp, ev_const, Int.natCast_add, Int.natCast_one, Int.natCast_zero, r3] <;> rfl), (by simp only [upd_apply, Nat.reduceEqDiff, ↓reduceIte, Vc.put_some, ev_tmp, ev_const, Int.natCast_add, Int.natCast_one, Int.natCast_zero, r4] <;> rfl), (by simp only [upd_apply, Nat.reduceEqDiff, ↓reduceIte, Vc.put_some, ev_tmp, ev_const, Int.natCast_add, Int.natCast_one, Int.natCast_zero, r14] <;> rfl), Fw, Mw, Ow, hgs, Q, hcl, hnb⟩)
      · clear Fw Mw Ow hgs Q hcl r0 r1 r2 r3 r4 r14 hcqc cq1 k1 hhd hDt hdc hcn hcq' hcellq hlt
        rintro ρ3 w3 ⟨cnt, D, Mk, g', vq', hhd, hDt, r0, r1, r2, r3, r4, r14, Fw, Mw, Ow, hgs, Q, hcl, hnb⟩
        have hcn := qi_le Q
        refine G.inBlock (G.rg rfl ?_)
        simp (disch := omega) only [ln29, ln22, ln23, idx29, idx23, sc3, sc29, sl29hi, true_and, vc_move, vc_assign, vc_pick, vc_load, vc_store, vc_bin, vc_un, vc_idx, vc_fld, vc_nilc, vc_ext, vc_slice, vc_func, vc_box, vc_len, vc_min, vc_nil, vc_guard, gdO_yes, gdO_ft, gdO_tf, gdO_un, gslot_cons0, gslot_consS, Vc.put_some, Vc.put_none, ev_tmp, ev_const, ev_func, upd_apply, Nat.reduceEqDiff, ↓reduceIte, vO_some, loadV_ptr, addrV_ptr, nilV_ptr, pickV_bool, ext2_0, ext2_1, unV_not, minV_int, binX_int, binX_str, binV_eql, binV_neq, binV_lss, binV_leq, binV_gtr, binV_geq, binV_add, binV_sub, binV_mul, add_at, Int.toNat_natCast, Nat.zero_add, Nat.add_zero, List.map_cons, List.map_nil, List.toList_toArray, Option.map_some, Option.map_none, true_and, Bool.false_eq_true, r14]
        refine hround (n - (hd + 1)) _ _ (by omega) ⟨hd + 1, cnt, D, Mk, g', vq', rfl, by omega, (by simp only [upd_apply, Nat.reduceEqDiff, ↓reduceIte, Vc.put_some, ev_tmp, ev_const, Int.natCast_add, Int.natCast_one, Int.natCast_zero, r0] <;> rfl), (by simp only [upd_apply, Nat.reduceEqDiff, ↓reduceIte, Vc.put_some, ev_tmp, ev_const, Int.natCast_add, Int.natCast_one, Int.natCast_zero, r1] <;> rfl), (by simp only [upd_apply, Nat.reduceEqDiff, ↓reduceIte, Vc.put_some, ev_tmp, ev_const, Int.natCast_add, Int.natCast_one, Int.natCast_zero, r2] <;> rfl), (by simp only [upd_apply, Nat.reduceEqDiff, ↓reduceIte, Vc.put_some, ev_tmp, ev_const, Int.natCast_add, Int.natCast_one, Int.natCast_zero, r3] <;> rfl), (by simp only [upd_apply, Nat.reduceEqDiff, ↓reduceIte, Vc.put_some, ev_tmp, ev_const, Int.natCast_add, Int.natCast_one, Int.natCast_zero, r4] <;> rfl), (by simp only [upd_apply, Nat.reduceEqDiff, ↓reduceIte, Vc.put_some, ev_tmp, ev_const, Int.natCast_add, Int.natCast_one, Int.natCast_zero] <;> rfl), Fw, Mw, Ow, hgs, Q, fun i hi => ?_⟩
        by_cases ei : i = hd
        · subst ei
          rintro u ⟨x, hx1, hx2⟩ hAu
          rw [hDt] at hx1 hx2
          subst hx2
          exact hnb x hx1 hAu
        · exact hcl i (by omega)
    · have hde : hd = cnt := by omega
      subst hde
      exact G.exit hx (hpost _ _ ⟨hd, D, Mk, g', _, (by simp only [upd_apply, Nat.reduceEqDiff, ↓reduceIte, Vc.put_some, ev_tmp, ev_const, Int.natCast_add, Int.natCast_one, Int.natCast_zero, r3] <;> rfl), Fw, Mw, Ow, hgs, Q, hcl⟩)
  clear F2 M2 O2 Q2 hgs1 hne1 h0 h1 h2 h3 h4 h5
  rintro ρ3 w3 ⟨cnt, D, Mk3, g', vq', r3, Fw, Mw, Ow, hgs, Q, hcl⟩
  have hcm := qi_end Q hcl hA hcu hR
  subst hcm
  obtain ⟨aq', cq', rfl, hcq', hcellq⟩ := Ow.val
  refine G.sr rfl ?_
  simp (disch := omega) only [ln29, ln22, ln23, idx29, idx23, sc3, sc29, sl29hi, true_and, vc_move, vc_assign, vc_pick, vc_load, vc_store, vc_bin, vc_un, vc_idx, vc_fld, vc_nilc, vc_ext, vc_slice, vc_func, vc_box, vc_len, vc_min, vc_nil, vc_guard, gdO_yes, gdO_ft, gdO_tf, gdO_un, gslot_cons0, gslot_consS, Vc.put_some, Vc.put_none, ev_tmp, ev_const, ev_func, upd_apply, Nat.reduceEqDiff, ↓reduceIte, vO_some, loadV_ptr, addrV_ptr, nilV_ptr, pickV_bool, ext2_0, ext2_1, unV_not, minV_int, binX_int, binX_str, binV_eql, binV_neq, binV_lss, binV_leq, binV_gtr, binV_geq, binV_add, binV_sub, binV_mul, add_at, Int.toNat_natCast, Nat.zero_add, Nat.add_zero, List.map_cons, List.map_nil, List.toList_toArray, Option.map_some, Option.map_none, true_and, Bool.false_eq_true, r3]
  exact G.ret2 Try.func14 rfl (by simp only [upd_apply, Nat.reduceEqDiff, ↓reduceIte, Vc.put_some, ev_tmp, ev_const, Int.natCast_add, Int.natCast_one, Int.natCast_zero] <;> rfl) (by simp only [upd_apply, Nat.reduceEqDiff, ↓reduceIte, Vc.put_some, ev_tmp, ev_const, Int.natCast_add, Int.natCast_one, Int.natCast_zero] <;> rfl) ⟨_, g', _, Mk3, rfl, Fw, Mw, Q.m1, Ow, hgs⟩
end Go.Proofs.Qxb6603705a
