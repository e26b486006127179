import Derived.Test.Qxb6603705aVi
import Derived.Test.Qxb6603705aCy
set_option linter.unusedVariables false
set_option linter.unusedSimpArgs false
namespace Go.Proofs.Qxb6603705a
open Go Go.Vc Go.RowKit Go.Gr

theorem ln46 (a : Option Addr) (len cap : Nat) : lenV Try.prog 46 (.slice a len cap) = some (.int .i64 len) := lenV_slice Try.underlying46 a len cap
theorem sc22 : scalarB Try.prog 22 = true := by kernel_rfl
theorem fld44_0 (b o : Nat) : fldV Try.prog 44 0 (.pointer (some ⟨b, o, none⟩)) = some (.pointer (some ⟨b, o, none⟩)) := by kernel_rfl
theorem fld48_0 (b o : Nat) : fldV Try.prog 48 0 (.pointer (some ⟨b, o, none⟩)) = some (.pointer (some ⟨b, o, none⟩)) := by kernel_rfl
theorem fld48_1 (b o : Nat) : fldV Try.prog 48 1 (.pointer (some ⟨b, o, none⟩)) = some (.pointer (some ⟨b, o + 1, none⟩)) := by kernel_rfl
theorem sl29hi (a : Option Addr) (len cap : Nat) (k : IntKind) (x : Int) (h1 : 0 ≤ x) (h2 : x ≤ cap) : slV Try.prog 29 (.slice a len cap) none (some (.int k x)) = some (.slice a x.toNat cap) := slV_hi el29 a len cap k x h1 h2
theorem z29 : zeroOf Try.prog 29 = some (.slice none 0 0) := by kernel_rfl
theorem z39 : zeroOf Try.prog 39 = some (.slice none 0 0) := by kernel_rfl
theorem z46 : zeroOf Try.prog 46 = some (.slice none 0 0) := by kernel_rfl
theorem hb24 : HasBody Try.prog 24 := ⟨⟨Try.f24, Try.func24, by kernel_rfl, by kernel_rfl⟩⟩
theorem hb25 : HasBody Try.prog 25 := ⟨⟨Try.f25, Try.func25, by kernel_rfl, by kernel_rfl⟩⟩
theorem hb22 : HasBody Try.prog 22 := ⟨⟨Try.f22, Try.func22, by kernel_rfl, by kernel_rfl⟩⟩
theorem slT29 : sliceT Try.prog 29 = true := by kernel_rfl
theorem vsl23 {ds : List (Option Nat)} {w : World} {K : Env → Prop} {os : List Oper} {ρ : Env} {d : Option Nat} {ty : TypeId} {pos : String} {aft : Array Edge} (a : Operand) : vcS Try.prog ds w K (⟨d, .load 23 a, ty, pos, aft, none⟩ :: os) ρ = sO Try.prog ds w K os ρ d (loadV w (ev ρ a)) := vs_load 23 a sc23

theorem grown_fresh {a b c : World} {x : Nat} (h : a.grownBy b none) (k : b.grownBy c (some x)) (hx : a.heap.size ≤ x) : a.grownBy c none :=
  ⟨k.os.trans h.os, k.tape.trans h.tape, k.output.trans h.output, Nat.le_trans h.size k.size, fun i hi hr => (k.block i (Nat.lt_of_lt_of_le hi h.size) (fun e => by simp at e; omega)).trans (h.block i hi hr)⟩

/-- slices.Clone of a slice that holds something -/
theorem clone_any {w : World} {b off m cap : Nat} {F : Nat → Value} (hm : 0 < m) (hm2 : m ≤ 131072) (hcells : ∀ i, i < m → w.cell? ⟨b, off + i, none⟩ = some (F i)) (hat : ∀ i, i < m → atomB (F i) = true) :
    Calls Try.prog 25 #[.slice (some ⟨b, off, none⟩) m cap] w (fun e w' => ∃ v' g, e = .returned v' ∧ Own w' (some g) v' 3 1 m F ∧ w.heap.size ≤ g ∧ w.grownBy w' none) := by
  refine calls Try.func25 rfl Try.ntmps25 (by simp) (fun ρ hρ => ?_)
  have h0 : ρ 0 = .slice (some ⟨b, off, none⟩) m cap := hρ 0 (by simp)
  clear hρ
  refine G.sr rfl ?_
  simp (disch := omega) only [ln29, ln22, ln23, ln39, ln46, idx29, idx22, idx23, idx39, sc3, sc22, sc9, sc29, sc4, sc23, sc39, sc46, fld44_0, fld44_1, fld48_0, fld48_1, sl29lo, sl29hi, vsl3, vsl4, vsl29, vsl23, true_and, vc_move, vc_assign, vc_pick, vc_load, vc_store, vc_bin, vc_un, vc_idx, vc_fld, vc_nilc, vc_ext, vc_slice, vc_func, vc_box, vc_len, vc_min, vc_nil, vc_guard, gdO_yes, gdO_ft, gdO_tf, gdO_un, gslot_cons0, gslot_consS, Vc.put_some, Vc.put_none, ev_tmp, ev_const, ev_func, upd_apply, Nat.reduceEqDiff, ↓reduceIte, vO_some, loadV_ptr, addrV_ptr, nilV_ptr, pickV_bool, ext2_0, ext2_1, unV_not, minV_int, binX_int, binX_str, binV_eql, binV_neq, binV_lss, binV_leq, binV_gtr, binV_geq, binV_add, binV_sub, binV_mul, add_at, Int.toNat_natCast, Nat.zero_add, Nat.add_zero, List.map_cons, List.map_nil, List.toList_toArray, Option.map_some, Option.map_none, true_and, Bool.false_eq_true]
  refine G.seq (G.sr rfl ?_)
  simp (disch := omega) only [ln29, ln22, ln23, ln39, ln46, idx29, idx22, idx23, idx39, sc3, sc22, sc9, sc29, sc4, sc23, sc39, sc46, fld44_0, fld44_1, fld48_0, fld48_1, sl29lo, sl29hi, vsl3, vsl4, vsl29, vsl23, true_and, vc_move, vc_assign, vc_pick, vc_load, vc_store, vc_bin, vc_un, vc_idx, vc_fld, vc_nilc, vc_ext, vc_slice, vc_func, vc_box, vc_len, vc_min, vc_nil, vc_guard, gdO_yes, gdO_ft, gdO_tf, gdO_un, gslot_cons0, gslot_consS, Vc.put_some, Vc.put_none, ev_tmp, ev_const, ev_func, upd_apply, Nat.reduceEqDiff, ↓reduceIte, vO_some, loadV_ptr, addrV_ptr, nilV_ptr, pickV_bool, ext2_0, ext2_1, unV_not, minV_int, binX_int, binX_str, binV_eql, binV_neq, binV_lss, binV_leq, binV_gtr, binV_geq, binV_add, binV_sub, binV_mul, add_at, Int.toNat_natCast, Nat.zero_add, Nat.add_zero, List.map_cons, List.map_nil, List.toList_toArray, Option.map_some, Option.map_none, true_and, Bool.false_eq_true, h0, binX_nil slT29, Option.isNone_some]
  refine G.condF (by simp only [upd_apply, Nat.reduceEqDiff, ↓reduceIte, Vc.put_some, ev_tmp, ev_const, Int.natCast_add, Int.natCast_one, Int.natCast_zero] <;> rfl) (G.skip (G.sr rfl ?_))
  rw [vc_lit0 29 el29]
  simp (disch := omega) only [ln29, ln22, ln23, ln39, ln46, idx29, idx22, idx23, idx39, sc3, sc22, sc9, sc29, sc4, sc23, sc39, sc46, fld44_0, fld44_1, fld48_0, fld48_1, sl29lo, sl29hi, vsl3, vsl4, vsl29, vsl23, true_and, vc_move, vc_assign, vc_pick, vc_load, vc_store, vc_bin, vc_un, vc_idx, vc_fld, vc_nilc, vc_ext, vc_slice, vc_func, vc_box, vc_len, vc_min, vc_nil, vc_guard, gdO_yes, gdO_ft, gdO_tf, gdO_un, gslot_cons0, gslot_consS, Vc.put_some, Vc.put_none, ev_tmp, ev_const, ev_func, upd_apply, Nat.reduceEqDiff, ↓reduceIte, vO_some, loadV_ptr, addrV_ptr, nilV_ptr, pickV_bool, ext2_0, ext2_1, unV_not, minV_int, binX_int, binX_str, binV_eql, binV_neq, binV_lss, binV_leq, binV_gtr, binV_geq, binV_add, binV_sub, binV_mul, add_at, Int.toNat_natCast, Nat.zero_add, Nat.add_zero, List.map_cons, List.map_nil, List.toList_toArray, Option.map_some, Option.map_none, true_and, Bool.false_eq_true, h0]
  have hg1 := grown_alloc w (.cells #[] 3) none
  have hr1 : (w.alloc (.cells #[] 3)).rowIs w.heap.size 3 0 (fun _ => undef) := World.rowIs_alloc w #[] 3 (fun _ => undef) (fun i hi => by simp at hi)
  have ho1 : Own (w.alloc (.cells #[] 3)) (some w.heap.size) (.slice (some ⟨w.heap.size, 0, none⟩) 0 0) 3 1 0 (fun _ => undef) := ⟨0, 0, 0, _, rfl, Nat.le_refl _, by omega, hr1, fun i hi => absurd hi (by omega)⟩
  generalize w.alloc (.cells #[] 3) = w1 at hg1 ho1 ⊢
  refine vc_append em29 ho1 ⟨b, off, none⟩ m cap ((List.range m).map F) (by simp only [upd_apply, Nat.reduceEqDiff, ↓reduceIte, Vc.put_some, ev_tmp, ev_const, Int.natCast_add, Int.natCast_one, Int.natCast_zero] <;> rfl) (by simp only [upd_apply, Nat.reduceEqDiff, ↓reduceIte, Vc.put_some, ev_tmp, ev_const, Int.natCast_add, Int.natCast_one, Int.natCast_zero, h0] <;> rfl) (by simp) ?_ ?_ hm (by omega) (by omega) (fun v' w2 g' ho hg2 hgor hne => ?_)
  · intro j u hj
    simp only [List.getElem?_map] at hj
    obtain ⟨x, hx, rfl⟩ := Option.map_eq_some_iff.1 hj
    obtain ⟨hlt, hxe⟩ := List.getElem?_eq_some_iff.1 hx
    simp at hlt hxe
    subst hxe
    rw [add_at]
    exact hg1.cell (hcells j hlt) (by simp)
  · intro u hu
    obtain ⟨i, hi, rfl⟩ := List.mem_map.1 hu
    exact hat i (by simpa using hi)
  simp (disch := omega) only [ln29, ln22, ln23, ln39, ln46, idx29, idx22, idx23, idx39, sc3, sc22, sc9, sc29, sc4, sc23, sc39, sc46, fld44_0, fld44_1, fld48_0, fld48_1, sl29lo, sl29hi, vsl3, vsl4, vsl29, vsl23, true_and, vc_move, vc_assign, vc_pick, vc_load, vc_store, vc_bin, vc_un, vc_idx, vc_fld, vc_nilc, vc_ext, vc_slice, vc_func, vc_box, vc_len, vc_min, vc_nil, vc_guard, gdO_yes, gdO_ft, gdO_tf, gdO_un, gslot_cons0, gslot_consS, Vc.put_some, Vc.put_none, ev_tmp, ev_const, ev_func, upd_apply, Nat.reduceEqDiff, ↓reduceIte, vO_some, loadV_ptr, addrV_ptr, nilV_ptr, pickV_bool, ext2_0, ext2_1, unV_not, minV_int, binX_int, binX_str, binV_eql, binV_neq, binV_lss, binV_leq, binV_gtr, binV_geq, binV_add, binV_sub, binV_mul, add_at, Int.toNat_natCast, Nat.zero_add, Nat.add_zero, List.map_cons, List.map_nil, List.toList_toArray, Option.map_some, Option.map_none, true_and, Bool.false_eq_true]
  have hgr : w.grownBy w2 none := grown_fresh hg1 hg2 (Nat.le_refl _)
  have hs1 := hg1.size
  have hox : ∃ g, g' = some g ∧ w.heap.size ≤ g := by
    rcases hgor with rfl | rfl
    · exact ⟨_, rfl, Nat.le_refl _⟩
    · exact ⟨_, rfl, hs1⟩
  obtain ⟨g, rfl, hgl⟩ := hox
  refine G.ret1 Try.func25 rfl (by simp only [upd_apply, Nat.reduceEqDiff, ↓reduceIte, Vc.put_some, ev_tmp, ev_const, Int.natCast_add, Int.natCast_one, Int.natCast_zero] <;> rfl) ⟨v', g, rfl, ?_, hgl, hgr⟩
  have ho' := ho.congr (F' := F) (fun i hi => by
    simp only [Nat.zero_add, Nat.mul_one] at hi
    rw [if_neg (by omega)]
    simp [List.getD, hi])
  simpa using ho'

theorem box_new (w : World) (z : Value) (t : TypeId) (hz : z.cells = #[z]) : (w.alloc (.cells z.cells t)).rowIs w.heap.size t 1 (fun _ => z) := by
  rw [hz]
  exact World.rowIs_alloc w #[z] t (fun _ => z) (fun i hi => by simp at hi; subst hi; rfl)

theorem TM.y {w0 w : World} {n : Nat} {v0 : Value} {s : TS} {gs gk gc : Option Nat} {vs vk vc : Value} {CV : Nat → Value} (h : TM w0 n v0 s gs gk gc vs vk vc CV w) (Y : Nat → Nat) : TM w0 n v0 { s with Y := Y } gs gk gc vs vk vc CV w :=
  ⟨h.below, h.gb, h.mB, h.mA, h.lB, h.lA, h.oB, h.oA, h.sB, h.cB, h.kB, h.sA, h.kA, h.cA, h.rows, h.slo, h.klo, h.clo, h.sk, h.sc, h.kc⟩

def FV (B : Nat) : Value := .func (.func 24) #[] #[ptr (B + 8), ptr (B + 2), ptr (B + 4), ptr (B + 7), ptr (B + 6), ptr (B + 9)]

/-- the open marks, the first k of the component's taken off -/
def opC (st : Nat → Nat) (i0 : Nat) (op : Nat → Bool) : Nat → Nat → Bool
  | 0 => op
  | k + 1 => fset (opC st i0 op k) (st (i0 + k)) false
theorem opC_true {st : Nat → Nat} {i0 : Nat} {op : Nat → Bool} (v : Nat) : ∀ k, opC st i0 op k v = true ↔ op v = true ∧ ∀ q, q < k → st (i0 + q) ≠ v
  | 0 => by simp [opC]
  | k + 1 => by
    simp only [opC]
    by_cases e : v = st (i0 + k)
    · subst e
      rw [fset_at]
      constructor
      · intro h; cases h
      · rintro ⟨_, h⟩; exact absurd rfl (h k (by omega))
    · rw [fset_ne _ _ e, opC_true v k]
      constructor
      · rintro ⟨h1, h2⟩
        refine ⟨h1, fun q hq => ?_⟩
        by_cases eq : q = k
        · subst eq; exact fun h => e h.symm
        · exact h2 q (by omega)
      · rintro ⟨h1, h2⟩; exact ⟨h1, fun q hq => h2 q (by omega)⟩

theorem visit_adv (s : TS) (u j : Nat) (hj : j < s.nk) : { visitS { s with kx := fset s.kx j (s.kx j + 1) } u with Y := (advS (visitS s u) j).Y } = advS (visitS s u) j := by
  simp only [visitS, advS]
  congr 1
  funext i
  simp only [fset]
  by_cases h1 : i = s.nk
  · have h2 : i ≠ j := by omega
    simp [h1, show s.nk ≠ j by omega]
  · by_cases h2 : i = j
    · subst h2; simp [h1]
    · simp [h1, h2]
end Go.Proofs.Qxb6603705a
