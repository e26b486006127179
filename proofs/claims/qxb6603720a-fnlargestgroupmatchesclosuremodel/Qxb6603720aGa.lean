import Derived.Test.Qxb6603720aSw
set_option linter.unusedVariables false
set_option linter.unusedSimpArgs false
namespace Go.Proofs.Qxb6603720a
open Go Go.Vc Go.RowKit Go.Gr

theorem el22 : elemB Try.prog 22 = some 24 := by kernel_rfl
theorem el24 : elemB Try.prog 24 = some 21 := by kernel_rfl
theorem el25 : elemB Try.prog 25 = some 3 := by kernel_rfl
theorem el44 : elemB Try.prog 44 = some 4 := by kernel_rfl
theorem sc4 : scalarB Try.prog 4 = true := by kernel_rfl
theorem sc21 : scalarB Try.prog 21 = true := by kernel_rfl
theorem sc24 : scalarB Try.prog 24 = true := by kernel_rfl
theorem sc25 : scalarB Try.prog 25 = true := by kernel_rfl
theorem slT25 : sliceT Try.prog 25 = true := by kernel_rfl
theorem em25 : Elem Try.prog 25 3 1 8 (.int .i64 0) := ⟨Try.underlying25, by kernel_rfl, rfl⟩
theorem em44 : Elem Try.prog 44 4 1 1 (.bool false) := ⟨Try.underlying44, by kernel_rfl, rfl⟩
theorem em24 : Elem Try.prog 24 21 1 4 (.int .i32 0) := ⟨Try.underlying24, by kernel_rfl, rfl⟩
theorem em22 : Elem Try.prog 22 24 1 24 (.slice none 0 0) := ⟨Try.underlying22, by kernel_rfl, rfl⟩
theorem ln22 (a : Option Addr) (len cap : Nat) : lenV Try.prog 22 (.slice a len cap) = some (.int .i64 len) := lenV_slice Try.underlying22 a len cap
theorem ln24 (a : Option Addr) (len cap : Nat) : lenV Try.prog 24 (.slice a len cap) = some (.int .i64 len) := lenV_slice Try.underlying24 a len cap
theorem ln25 (a : Option Addr) (len cap : Nat) : lenV Try.prog 25 (.slice a len cap) = some (.int .i64 len) := lenV_slice Try.underlying25 a len cap
theorem ln44 (a : Option Addr) (len cap : Nat) : lenV Try.prog 44 (.slice a len cap) = some (.int .i64 len) := lenV_slice Try.underlying44 a len cap
theorem idx22 (a : Addr) (len cap : Nat) (k : IntKind) (n : Int) (h1 : 0 ≤ n) (h2 : n < len) : idxV Try.prog 22 (.slice (some a) len cap) (.int k n) = some (.pointer (some (a.add n.toNat))) := idxV_in el22 a len cap k n h1 h2
theorem idx24 (a : Addr) (len cap : Nat) (k : IntKind) (n : Int) (h1 : 0 ≤ n) (h2 : n < len) : idxV Try.prog 24 (.slice (some a) len cap) (.int k n) = some (.pointer (some (a.add n.toNat))) := idxV_in el24 a len cap k n h1 h2
theorem idx25 (a : Addr) (len cap : Nat) (k : IntKind) (n : Int) (h1 : 0 ≤ n) (h2 : n < len) : idxV Try.prog 25 (.slice (some a) len cap) (.int k n) = some (.pointer (some (a.add n.toNat))) := idxV_in el25 a len cap k n h1 h2
theorem idx44 (a : Addr) (len cap : Nat) (k : IntKind) (n : Int) (h1 : 0 ≤ n) (h2 : n < len) : idxV Try.prog 44 (.slice (some a) len cap) (.int k n) = some (.pointer (some (a.add n.toNat))) := idxV_in el44 a len cap k n h1 h2
theorem sl25hi (a : Option Addr) (len cap : Nat) (k : IntKind) (x : Int) (h1 : 0 ≤ x) (h2 : x ≤ cap) : slV Try.prog 25 (.slice a len cap) none (some (.int k x)) = some (.slice a x.toNat cap) := slV_hi el25 a len cap k x h1 h2
theorem own_grown {w w' : World} {g : Option Nat} {v : Value} {e : TypeId} {s n : Nat} {F : Nat → Value} {r : Option Nat} (h : Own w g v e s n F) (hg : w.grownBy w' r) (hne : ∀ b, g = some b → some b ≠ r) : Own w' g v e s n F :=
  h.of_block (fun b hb => by subst hb; exact hg.block b h.lt (hne b rfl))
theorem own_atom {w : World} {g : Option Nat} {v : Value} {e : TypeId} {s n : Nat} {F : Nat → Value} (h : Own w g v e s n F) : atomB v = true := by
  obtain ⟨a, c, rfl, _⟩ := h.val; rfl

/-- a matrix of int32 -/
structure Mat (w : World) (v : Value) (n : Nat) (L : Nat → Nat) (C : Nat → Nat → Int) (V : Nat → Value) : Prop where
  rd : Rd w v n V
  row : ∀ r, r < n → Rd w (V r) (L r) (fun i => .int .i32 (C r i))
def Em (n : Nat) (L : Nat → Nat) (C : Nat → Nat → Int) (u h : Nat) : Prop := u < n ∧ h < n ∧ h < L u ∧ C u h ≠ -1

/-- slices.Clone of a slice that holds something -/
theorem clone30_any {w : World} {b off m cap : Nat} {F : Nat → Value} (hm : 0 < m) (hm2 : m ≤ 131072) (hcells : ∀ i, i < m → w.cell? ⟨b, off + i, none⟩ = some (F i)) (hat : ∀ i, i < m → atomB (F i) = true) :
    Calls Try.prog 30 #[.slice (some ⟨b, off, none⟩) m cap] w (fun e w' => ∃ v' g, e = .returned v' ∧ Own w' (some g) v' 3 1 m F ∧ w.heap.size ≤ g ∧ w.grownBy w' none) := by
  refine calls Try.func30 rfl Try.ntmps30 (by simp) (fun ρ hρ => ?_)
  have h0 : ρ 0 = .slice (some ⟨b, off, none⟩) m cap := hρ 0 (by simp)
  clear hρ
  refine G.sr rfl ?_
  simp (disch := omega) only [ln22, ln24, ln25, ln44, idx22, idx24, idx25, idx44, sc3, sc4, sc21, sc24, sc25, sl25hi, true_and, vc_move, vc_assign, vc_pick, vc_load, vc_store, vc_bin, vc_un, vc_idx, vc_fld, vc_nilc, vc_ext, vc_slice, vc_func, vc_box, vc_len, vc_min, vc_nil, vc_guard, gdO_yes, gdO_ft, gdO_tf, gdO_un, gslot_cons0, gslot_consS, Vc.put_some, Vc.put_none, ev_tmp, ev_const, ev_func, upd_apply, Nat.reduceEqDiff, ↓reduceIte, vO_some, loadV_ptr, addrV_ptr, nilV_ptr, pickV_bool, ext2_0, ext2_1, unV_not, minV_int, binX_int, binX_str, binV_eql, binV_neq, binV_lss, binV_leq, binV_gtr, binV_geq, binV_add, binV_sub, binV_mul, add_at, Int.toNat_natCast, Nat.zero_add, Nat.add_zero, List.map_cons, List.map_nil, List.toList_toArray, Option.map_some, Option.map_none, true_and, Bool.false_eq_true]
  refine G.seq (G.sr rfl ?_)
  simp (disch := omega) only [ln22, ln24, ln25, ln44, idx22, idx24, idx25, idx44, sc3, sc4, sc21, sc24, sc25, sl25hi, true_and, vc_move, vc_assign, vc_pick, vc_load, vc_store, vc_bin, vc_un, vc_idx, vc_fld, vc_nilc, vc_ext, vc_slice, vc_func, vc_box, vc_len, vc_min, vc_nil, vc_guard, gdO_yes, gdO_ft, gdO_tf, gdO_un, gslot_cons0, gslot_consS, Vc.put_some, Vc.put_none, ev_tmp, ev_const, ev_func, upd_apply, Nat.reduceEqDiff, ↓reduceIte, vO_some, loadV_ptr, addrV_ptr, nilV_ptr, pickV_bool, ext2_0, ext2_1, unV_not, minV_int, binX_int, binX_str, binV_eql, binV_neq, binV_lss, binV_leq, binV_gtr, binV_geq, binV_add, binV_sub, binV_mul, add_at, Int.toNat_natCast, Nat.zero_add, Nat.add_zero, List.map_cons, List.map_nil, List.toList_toArray, Option.map_some, Option.map_none, true_and, Bool.false_eq_true, h0, binX_nil slT25, Option.isNone_some]
  refine G.condF (by simp only [upd_apply, Nat.reduceEqDiff, ↓reduceIte, Vc.put_some, ev_tmp, ev_const, Int.natCast_add, Int.natCast_one, Int.natCast_zero] <;> rfl) (G.skip (G.sr rfl ?_))
  rw [vc_lit0 25 el25]
  simp (disch := omega) only [ln22, ln24, ln25, ln44, idx22, idx24, idx25, idx44, sc3, sc4, sc21, sc24, sc25, sl25hi, true_and, vc_move, vc_assign, vc_pick, vc_load, vc_store, vc_bin, vc_un, vc_idx, vc_fld, vc_nilc, vc_ext, vc_slice, vc_func, vc_box, vc_len, vc_min, vc_nil, vc_guard, gdO_yes, gdO_ft, gdO_tf, gdO_un, gslot_cons0, gslot_consS, Vc.put_some, Vc.put_none, ev_tmp, ev_const, ev_func, upd_apply, Nat.reduceEqDiff, ↓reduceIte, vO_some, loadV_ptr, addrV_ptr, nilV_ptr, pickV_bool, ext2_0, ext2_1, unV_not, minV_int, binX_int, binX_str, binV_eql, binV_neq, binV_lss, binV_leq, binV_gtr, binV_geq, binV_add, binV_sub, binV_mul, add_at, Int.toNat_natCast, Nat.zero_add, Nat.add_zero, List.map_cons, List.map_nil, List.toList_toArray, Option.map_some, Option.map_none, true_and, Bool.false_eq_true, h0]
  have hg1 := grown_alloc w (.cells #[] 3) none
  have hr1 : (w.alloc (.cells #[] 3)).rowIs w.heap.size 3 0 (fun _ => undef) := World.rowIs_alloc w #[] 3 (fun _ => undef) (fun i hi => by simp at hi)
  have ho1 : Own (w.alloc (.cells #[] 3)) (some w.heap.size) (.slice (some ⟨w.heap.size, 0, none⟩) 0 0) 3 1 0 (fun _ => undef) := ⟨0, 0, 0, _, rfl, Nat.le_refl _, by omega, hr1, fun i hi => absurd hi (by omega)⟩
  generalize w.alloc (.cells #[] 3) = w1 at hg1 ho1 ⊢
  refine vc_append em25 ho1 ⟨b, off, none⟩ m cap ((List.range m).map F) (by simp only [upd_apply, Nat.reduceEqDiff, ↓reduceIte, Vc.put_some, ev_tmp, ev_const, Int.natCast_add, Int.natCast_one, Int.natCast_zero] <;> rfl) (by simp only [upd_apply, Nat.reduceEqDiff, ↓reduceIte, Vc.put_some, ev_tmp, ev_const, Int.natCast_add, Int.natCast_one, Int.natCast_zero, h0] <;> rfl) (by simp) ?_ ?_ hm (by omega) (by omega) (fun v' w2 g' ho hg2 hgor hne => ?_)
  · intro j u hj
    simp only [List.getElem?_map] at hj
    obtain ⟨x, hx, rfl⟩ := Option.map_eq_some_iff.1 hj
    obtain ⟨hlt, hxe⟩ := List.getElem?_eq_some_iff.1 hx
    simp at hlt hxe
    subst hxe
    rw [add_at]
    exact hg1.cell (hcells j hlt) (by simp)
  · intro u hu
    obtain ⟨i, hi, rfl⟩ := List.mem_map.1 hu
    exact hat i (by simpa using hi)
  simp (disch := omega) only [ln22, ln24, ln25, ln44, idx22, idx24, idx25, idx44, sc3, sc4, sc21, sc24, sc25, sl25hi, true_and, vc_move, vc_assign, vc_pick, vc_load, vc_store, vc_bin, vc_un, vc_idx, vc_fld, vc_nilc, vc_ext, vc_slice, vc_func, vc_box, vc_len, vc_min, vc_nil, vc_guard, gdO_yes, gdO_ft, gdO_tf, gdO_un, gslot_cons0, gslot_consS, Vc.put_some, Vc.put_none, ev_tmp, ev_const, ev_func, upd_apply, Nat.reduceEqDiff, ↓reduceIte, vO_some, loadV_ptr, addrV_ptr, nilV_ptr, pickV_bool, ext2_0, ext2_1, unV_not, minV_int, binX_int, binX_str, binV_eql, binV_neq, binV_lss, binV_leq, binV_gtr, binV_geq, binV_add, binV_sub, binV_mul, add_at, Int.toNat_natCast, Nat.zero_add, Nat.add_zero, List.map_cons, List.map_nil, List.toList_toArray, Option.map_some, Option.map_none, true_and, Bool.false_eq_true]
  have hgr : w.grownBy w2 none := grown_fresh hg1 hg2 (Nat.le_refl _)
  have hs1 := hg1.size
  have hox : ∃ g, g' = some g ∧ w.heap.size ≤ g := by
    rcases hgor with rfl | rfl
    · exact ⟨_, rfl, Nat.le_refl _⟩
    · exact ⟨_, rfl, hs1⟩
  obtain ⟨g, rfl, hgl⟩ := hox
  refine G.ret1 Try.func30 rfl (by simp only [upd_apply, Nat.reduceEqDiff, ↓reduceIte, Vc.put_some, ev_tmp, ev_const, Int.natCast_add, Int.natCast_one, Int.natCast_zero] <;> rfl) ⟨v', g, rfl, ?_, hgl, hgr⟩
  have ho' := ho.congr (F' := F) (fun i hi => by
    simp only [Nat.zero_add, Nat.mul_one] at hi
    rw [if_neg (by omega)]
    simp [List.getD, hi])
  simpa using ho'
theorem hb30 : HasBody Try.prog 30 := ⟨⟨Try.f30, Try.func30, by kernel_rfl, by kernel_rfl⟩⟩
theorem hb31 : HasBody Try.prog 31 := ⟨⟨Try.f31, Try.func31, by kernel_rfl, by kernel_rfl⟩⟩
end Go.Proofs.Qxb6603720a
