import Derived.Test.Qxb6603705aSr
import Derived.Test.Qxb6603705aRev
import Derived.Test.Qxb6603705aMap
set_option linter.unusedVariables false
set_option linter.unusedSimpArgs false
namespace Go.Proofs.Qxb6603705a
open Go Go.Vc Go.RowKit Go.Gr

theorem sc23 : scalarB Try.prog 23 = true := by kernel_rfl
theorem fld44_1 (b o : Nat) : fldV Try.prog 44 1 (.pointer (some ⟨b, o, none⟩)) = some (.pointer (some ⟨b, o + 1, none⟩)) := by kernel_rfl
theorem sl29lo (a : Option Addr) (len cap : Nat) (k : IntKind) (x : Int) (h1 : 0 ≤ x) (h2 : x ≤ len) (h3 : len ≤ cap) : slV Try.prog 29 (.slice a len cap) (some (.int k x)) none = some (.slice (if cap = x.toNat then a else a.map (·.add x.toNat)) (len - x.toNat) (cap - x.toNat)) := slV_lo el29 a len cap k x h1 h2 h3
theorem z4 : zeroOf Try.prog 4 = some (.bool false) := by kernel_rfl
theorem z3 : zeroOf Try.prog 3 = some (.int .i64 0) := by kernel_rfl
theorem hb26 : HasBody Try.prog 26 := ⟨⟨Try.f26, Try.func26, by kernel_rfl, by kernel_rfl⟩⟩
theorem hb23 : HasBody Try.prog 23 := ⟨⟨Try.f23, Try.func23, by kernel_rfl, by kernel_rfl⟩⟩
theorem hb19 : HasBody Try.prog 19 := ⟨⟨Try.f19, Try.func19, by kernel_rfl, by kernel_rfl⟩⟩

theorem own_len {w : World} {g : Option Nat} {v : Value} {e : TypeId} {n n' : Nat} {F F' : Nat → Value} (h : Own w g v e 1 n F) (hn : n = n') (hF : ∀ i, i < n → F i = F' i) : Own w g v e 1 n' F' := by
  subst hn; exact h.congr (fun i hi => hF i (by omega))
theorem mapI_grown {w w' : World} {b : Nat} {M : Int → Option Value} {r : Option Nat} (h : MapI w b M) (hg : w.grownBy w' r) (hne : some b ≠ r) : MapI w' b M := h.of_block (hg.block b h.lt hne)

/-- the search's memory: what the maps and the queue hold -/
structure Mem (w w' : World) (v0 : Value) (m : Nat) (c : Nat → Int) (hd cnt : Nat) (D : Nat → Int) (par : Nat → Nat) (gq : Nat) (vq : Value) : Prop where
  below : Below w.heap.size w w'
  box : w'.cell? ⟨w.heap.size, 1, none⟩ = some v0
  inn : ∃ M, MapI w' (w.heap.size + 1) M ∧ (∀ k, Sc m c k → M k = some (.bool true)) ∧ ∀ k, ¬ Sc m c k → M k = none
  frm : ∃ M, MapI w' (w.heap.size + 2) M ∧ M (c 0) = some (.int .i64 (-1)) ∧ (∀ j, 0 < j → j < cnt → M (D j) = some (.int .i64 (D (par j)))) ∧ ∀ u, (∀ j, j < cnt → D j ≠ u) → M u = none
  que : Own w' (some gq) vq 3 1 (cnt - hd) (fun i => .int .i64 (D (hd + i)))
  gqlo : w.heap.size + 3 ≤ gq
  hdle : hd ≤ cnt

set_option maxHeartbeats 2000000 in
theorem cycle_any {w : World} {v0 v1 vn : Value} {h m : Nat} {L : Nat → Nat} {H : Nat → Nat → Int} {V : Nat → Value} {c : Nat → Int}
    (hr : Rows2 w v0 h L H V) (hcm : Ints w v1 m c) (hh : h ≤ 131072) (hL : ∀ r, r < h → L r ≤ 131072) (hm : 0 < m) (hm2 : m ≤ 131072) (hcr : ∀ i, i < m → 0 ≤ c i ∧ c i < h)
    (hcl : ∃ l t, Walk (Eg L H) (Sc m c) (c 0) l t ∧ Eg L H t (c 0)) :
    Calls Try.prog 23 #[.agg #[vn, v0], v1] w (fun e w' => ∃ v' N r, e = .returned v' ∧ RdB w' w.heap.size v' (N + 1) (fun i => .int .i64 (r i)) ∧ Chain (Eg L H) (Sc m c) (c 0) N r ∧ Below w.heap.size w w') := by
  have hS : ∀ v, Sc m c v → 0 ≤ v ∧ v < h := by rintro v ⟨i, hi, rfl⟩; exact hcr i hi
  obtain ⟨⟨a0, c0, rfl, hc0, hcell0⟩, hrow⟩ := hr
  obtain ⟨a1, c1, rfl, hc1, hcell1⟩ := hcm
  obtain ⟨b1, o1, rfl, hcq⟩ := hcell1 hm
  obtain ⟨bh, oh, rfl, hch⟩ := hcell0 (by have := hcr 0 hm; omega)
  have hSs : Sc m c (c 0) := ⟨0, hm, rfl⟩
  refine calls Try.func23 rfl Try.ntmps23 (by simp) (fun ρ hρ => ?_)
  have h0 : ρ 0 = .agg #[vn, .slice (some ⟨bh, oh, none⟩) h c0] := hρ 0 (by simp)
  have h1 : ρ 1 = .slice (some ⟨b1, o1, none⟩) m c1 := hρ 1 (by simp)
  clear hρ
  refine G.sr rfl ?_
  simp (disch := omega) only [ln29, ln22, ln23, ln9, ln39, idx29, idx22, idx23, idx39, sc3, sc9, sc29, sc4, sc23, fld44_1, sl29lo, true_and, vc_move, vc_assign, vc_pick, vc_load, vc_store, vc_bin, vc_un, vc_idx, vc_fld, vc_nilc, vc_ext, vc_slice, vc_func, vc_box, vc_len, vc_min, vc_nil, vc_guard, gdO_yes, gdO_ft, gdO_tf, gdO_un, gslot_cons0, gslot_consS, Vc.put_some, Vc.put_none, ev_tmp, ev_const, ev_func, upd_apply, Nat.reduceEqDiff, ↓reduceIte, vO_some, loadV_ptr, addrV_ptr, nilV_ptr, pickV_bool, ext2_0, ext2_1, unV_not, minV_int, binX_int, binX_str, binV_eql, binV_neq, binV_lss, binV_leq, binV_gtr, binV_geq, binV_add, binV_sub, binV_mul, add_at, Int.toNat_natCast, Nat.zero_add, Nat.add_zero, List.map_cons, List.map_nil, List.toList_toArray, Option.map_some, Option.map_none, true_and, Bool.false_eq_true, h0]
  have hbx : (w.alloc (.cells (Value.agg #[vn, .slice (some ⟨bh, oh, none⟩) h c0]).cells 44)).cell? ⟨w.heap.size, 1, none⟩ = some (.slice (some ⟨bh, oh, none⟩) h c0) := by
    rw [World.cell?_alloc_new]; rfl
  have hg1 := grown_alloc w (.cells (Value.agg #[vn, .slice (some ⟨bh, oh, none⟩) h c0]).cells 44) none
  have hsz1 : (w.alloc (.cells (Value.agg #[vn, .slice (some ⟨bh, oh, none⟩) h c0]).cells 44)).heap.size = w.heap.size + 1 := by simp
  generalize w.alloc (.cells (Value.agg #[vn, .slice (some ⟨bh, oh, none⟩) h c0]).cells 44) = w1 at hbx hg1 hsz1 ⊢
  have hb1 := grown_none hg1
  have e0 : w1.cell? ⟨b1, o1, none⟩ = some (.int .i64 (c 0)) := by have := below_keep' hb1 _ _ (hcq 0 hm); simpa using this
  refine G.sr rfl ?_
  simp (disch := omega) only [ln29, ln22, ln23, ln9, ln39, idx29, idx22, idx23, idx39, sc3, sc9, sc29, sc4, sc23, fld44_1, sl29lo, true_and, vc_move, vc_assign, vc_pick, vc_load, vc_store, vc_bin, vc_un, vc_idx, vc_fld, vc_nilc, vc_ext, vc_slice, vc_func, vc_box, vc_len, vc_min, vc_nil, vc_guard, gdO_yes, gdO_ft, gdO_tf, gdO_un, gslot_cons0, gslot_consS, Vc.put_some, Vc.put_none, ev_tmp, ev_const, ev_func, upd_apply, Nat.reduceEqDiff, ↓reduceIte, vO_some, loadV_ptr, addrV_ptr, nilV_ptr, pickV_bool, ext2_0, ext2_1, unV_not, minV_int, binX_int, binX_str, binV_eql, binV_neq, binV_lss, binV_leq, binV_gtr, binV_geq, binV_add, binV_sub, binV_mul, add_at, Int.toNat_natCast, Nat.zero_add, Nat.add_zero, List.map_cons, List.map_nil, List.toList_toArray, Option.map_some, Option.map_none, true_and, Bool.false_eq_true, h1, Int.toNat_zero, e0]
  refine G.sr rfl ?_
  simp (disch := omega) only [ln29, ln22, ln23, ln9, ln39, idx29, idx22, idx23, idx39, sc3, sc9, sc29, sc4, sc23, fld44_1, sl29lo, true_and, vc_move, vc_assign, vc_pick, vc_load, vc_store, vc_bin, vc_un, vc_idx, vc_fld, vc_nilc, vc_ext, vc_slice, vc_func, vc_box, vc_len, vc_min, vc_nil, vc_guard, gdO_yes, gdO_ft, gdO_tf, gdO_un, gslot_cons0, gslot_consS, Vc.put_some, Vc.put_none, ev_tmp, ev_const, ev_func, upd_apply, Nat.reduceEqDiff, ↓reduceIte, vO_some, loadV_ptr, addrV_ptr, nilV_ptr, pickV_bool, ext2_0, ext2_1, unV_not, minV_int, binX_int, binX_str, binV_eql, binV_neq, binV_lss, binV_leq, binV_gtr, binV_geq, binV_add, binV_sub, binV_mul, add_at, Int.toNat_natCast, Nat.zero_add, Nat.add_zero, List.map_cons, List.map_nil, List.toList_toArray, Option.map_some, Option.map_none, true_and, Bool.false_eq_true, h1]
  refine vc_makeMap Try.underlying51 (by rintro x hx; simp at hx; subst hx; exact ⟨_, _, (by simp only [upd_apply, Nat.reduceEqDiff, ↓reduceIte, Vc.put_some, ev_tmp, ev_const, Int.natCast_add, Int.natCast_one, Int.natCast_zero] <;> rfl)⟩) (fun w2 hM2 hg2 hsz2 => ?_)
  simp (disch := omega) only [ln29, ln22, ln23, ln9, ln39, idx29, idx22, idx23, idx39, sc3, sc9, sc29, sc4, sc23, fld44_1, sl29lo, true_and, vc_move, vc_assign, vc_pick, vc_load, vc_store, vc_bin, vc_un, vc_idx, vc_fld, vc_nilc, vc_ext, vc_slice, vc_func, vc_box, vc_len, vc_min, vc_nil, vc_guard, gdO_yes, gdO_ft, gdO_tf, gdO_un, gslot_cons0, gslot_consS, Vc.put_some, Vc.put_none, ev_tmp, ev_const, ev_func, upd_apply, Nat.reduceEqDiff, ↓reduceIte, vO_some, loadV_ptr, addrV_ptr, nilV_ptr, pickV_bool, ext2_0, ext2_1, unV_not, minV_int, binX_int, binX_str, binV_eql, binV_neq, binV_lss, binV_leq, binV_gtr, binV_geq, binV_add, binV_sub, binV_mul, add_at, Int.toNat_natCast, Nat.zero_add, Nat.add_zero, List.map_cons, List.map_nil, List.toList_toArray, Option.map_some, Option.map_none, true_and, Bool.false_eq_true]
  rw [hsz1] at hM2 ⊢
  have hb2 : Below w.heap.size w w2 := below_grown hb1 hg2 (Nat.le_refl _) (fun b e => by cases e)
  have hbx2 : w2.cell? ⟨w.heap.size, 1, none⟩ = some (.slice (some ⟨bh, oh, none⟩) h c0) := hg2.cell hbx (by simp)
  refine G.seq (G.sr rfl ?_)
  simp (disch := omega) only [ln29, ln22, ln23, ln9, ln39, idx29, idx22, idx23, idx39, sc3, sc9, sc29, sc4, sc23, fld44_1, sl29lo, true_and, vc_move, vc_assign, vc_pick, vc_load, vc_store, vc_bin, vc_un, vc_idx, vc_fld, vc_nilc, vc_ext, vc_slice, vc_func, vc_box, vc_len, vc_min, vc_nil, vc_guard, gdO_yes, gdO_ft, gdO_tf, gdO_un, gslot_cons0, gslot_consS, Vc.put_some, Vc.put_none, ev_tmp, ev_const, ev_func, upd_apply, Nat.reduceEqDiff, ↓reduceIte, vO_some, loadV_ptr, addrV_ptr, nilV_ptr, pickV_bool, ext2_0, ext2_1, unV_not, minV_int, binX_int, binX_str, binV_eql, binV_neq, binV_lss, binV_leq, binV_gtr, binV_geq, binV_add, binV_sub, binV_mul, add_at, Int.toNat_natCast, Nat.zero_add, Nat.add_zero, List.map_cons, List.map_nil, List.toList_toArray, Option.map_some, Option.map_none, true_and, Bool.false_eq_true, h1]
  -- in[t] = true
  refine G.forLoop (fun q ρ' w' => ∃ k, q = m - k ∧ k ≤ m ∧ ρ' 2 = .pointer (some ⟨w.heap.size, 0, none⟩) ∧ ρ' 5 = .int .i64 (c 0) ∧ ρ' 6 = .map (some (w.heap.size + 1)) ∧ ρ' 24 = .slice (some ⟨b1, o1, none⟩) m c1 ∧ ρ' 25 = .int .i64 m ∧ ρ' 26 = .int .i64 k ∧
      Below w.heap.size w w' ∧ w'.heap.size = w.heap.size + 2 ∧ w'.cell? ⟨w.heap.size, 1, none⟩ = some (.slice (some ⟨bh, oh, none⟩) h c0) ∧ ∃ M, MapI w' (w.heap.size + 1) M ∧ (∀ q, Sc k c q → M q = some (.bool true)) ∧ ∀ q, ¬ Sc k c q → M q = none)
    (fun ρ' w' => ρ' 2 = .pointer (some ⟨w.heap.size, 0, none⟩) ∧ ρ' 5 = .int .i64 (c 0) ∧ ρ' 6 = .map (some (w.heap.size + 1)) ∧
      Below w.heap.size w w' ∧ w'.heap.size = w.heap.size + 2 ∧ w'.cell? ⟨w.heap.size, 1, none⟩ = some (.slice (some ⟨bh, oh, none⟩) h c0) ∧ ∃ M, MapI w' (w.heap.size + 1) M ∧ (∀ q, Sc m c q → M q = some (.bool true)) ∧ ∀ q, ¬ Sc m c q → M q = none) m ?_ ?_ ?_
  · exact ⟨0, by omega, by omega, (by simp only [upd_apply, Nat.reduceEqDiff, ↓reduceIte, Vc.put_some, ev_tmp, ev_const, Int.natCast_add, Int.natCast_one, Int.natCast_zero] <;> rfl), (by simp only [upd_apply, Nat.reduceEqDiff, ↓reduceIte, Vc.put_some, ev_tmp, ev_const, Int.natCast_add, Int.natCast_one, Int.natCast_zero] <;> rfl), (by simp only [upd_apply, Nat.reduceEqDiff, ↓reduceIte, Vc.put_some, ev_tmp, ev_const, Int.natCast_add, Int.natCast_one, Int.natCast_zero] <;> rfl), (by simp only [upd_apply, Nat.reduceEqDiff, ↓reduceIte, Vc.put_some, ev_tmp, ev_const, Int.natCast_add, Int.natCast_one, Int.natCast_zero] <;> rfl), (by simp only [upd_apply, Nat.reduceEqDiff, ↓reduceIte, Vc.put_some, ev_tmp, ev_const, Int.natCast_add, Int.natCast_one, Int.natCast_zero] <;> rfl), (by simp only [upd_apply, Nat.reduceEqDiff, ↓reduceIte, Vc.put_some, ev_tmp, ev_const, Int.natCast_add, Int.natCast_one, Int.natCast_zero] <;> rfl), hb2, by omega, hbx2, _, hM2, by rintro q ⟨i, hi, _⟩; omega, fun _ _ => rfl⟩
  · rintro q ρ' w' ⟨k, rfl, hk, r2, r5, r6, r24, r25, r26, hbl, hsz, hbx', M, hM, hMy, hMn⟩ kL kX hround hx hpost
    refine G.sr rfl ?_
    simp (disch := omega) only [ln29, ln22, ln23, ln9, ln39, idx29, idx22, idx23, idx39, sc3, sc9, sc29, sc4, sc23, fld44_1, sl29lo, true_and, vc_move, vc_assign, vc_pick, vc_load, vc_store, vc_bin, vc_un, vc_idx, vc_fld, vc_nilc, vc_ext, vc_slice, vc_func, vc_box, vc_len, vc_min, vc_nil, vc_guard, gdO_yes, gdO_ft, gdO_tf, gdO_un, gslot_cons0, gslot_consS, Vc.put_some, Vc.put_none, ev_tmp, ev_const, ev_func, upd_apply, Nat.reduceEqDiff, ↓reduceIte, vO_some, loadV_ptr, addrV_ptr, nilV_ptr, pickV_bool, ext2_0, ext2_1, unV_not, minV_int, binX_int, binX_str, binV_eql, binV_neq, binV_lss, binV_leq, binV_gtr, binV_geq, binV_add, binV_sub, binV_mul, add_at, Int.toNat_natCast, Nat.zero_add, Nat.add_zero, List.map_cons, List.map_nil, List.toList_toArray, Option.map_some, Option.map_none, true_and, Bool.false_eq_true, r25, r26]
    refine G.seq (G.condD (p := (k : Int) < m) (by simp only [upd_apply, Nat.reduceEqDiff, ↓reduceIte, Vc.put_some, ev_tmp, ev_const, Int.natCast_add, Int.natCast_one, Int.natCast_zero] <;> rfl) (fun hlt => ?_) (fun hge => ?_))
    · refine G.skip (G.seq (G.block (G.sr rfl ?_)))
      have hck : ∀ i, i < m → w'.cell? ⟨b1, o1 + i, none⟩ = some (.int .i64 (c i)) := fun i hi => below_keep' hbl _ _ (hcq i hi)
      simp (disch := omega) only [ln29, ln22, ln23, ln9, ln39, idx29, idx22, idx23, idx39, sc3, sc9, sc29, sc4, sc23, fld44_1, sl29lo, true_and, vc_move, vc_assign, vc_pick, vc_load, vc_store, vc_bin, vc_un, vc_idx, vc_fld, vc_nilc, vc_ext, vc_slice, vc_func, vc_box, vc_len, vc_min, vc_nil, vc_guard, gdO_yes, gdO_ft, gdO_tf, gdO_un, gslot_cons0, gslot_consS, Vc.put_some, Vc.put_none, ev_tmp, ev_const, ev_func, upd_apply, Nat.reduceEqDiff, ↓reduceIte, vO_some, loadV_ptr, addrV_ptr, nilV_ptr, pickV_bool, ext2_0, ext2_1, unV_not, minV_int, binX_int, binX_str, binV_eql, binV_neq, binV_lss, binV_leq, binV_gtr, binV_geq, binV_add, binV_sub, binV_mul, add_at, Int.toNat_natCast, Nat.zero_add, Nat.add_zero, List.map_cons, List.map_nil, List.toList_toArray, Option.map_some, Option.map_none, true_and, Bool.false_eq_true, r24, r26, hck]
      refine G.rg rfl ?_
      simp (disch := omega) only [ln29, ln22, ln23, ln9, ln39, idx29, idx22, idx23, idx39, sc3, sc9, sc29, sc4, sc23, fld44_1, sl29lo, true_and, vc_move, vc_assign, vc_pick, vc_load, vc_store, vc_bin, vc_un, vc_idx, vc_fld, vc_nilc, vc_ext, vc_slice, vc_func, vc_box, vc_len, vc_min, vc_nil, vc_guard, gdO_yes, gdO_ft, gdO_tf, gdO_un, gslot_cons0, gslot_consS, Vc.put_some, Vc.put_none, ev_tmp, ev_const, ev_func, upd_apply, Nat.reduceEqDiff, ↓reduceIte, vO_some, loadV_ptr, addrV_ptr, nilV_ptr, pickV_bool, ext2_0, ext2_1, unV_not, minV_int, binX_int, binX_str, binV_eql, binV_neq, binV_lss, binV_leq, binV_gtr, binV_geq, binV_add, binV_sub, binV_mul, add_at, Int.toNat_natCast, Nat.zero_add, Nat.add_zero, List.map_cons, List.map_nil, List.toList_toArray, Option.map_some, Option.map_none, true_and, Bool.false_eq_true, r6]
      refine vc_update Try.underlying51 Try.underlying3 hM (by simp only [upd_apply, Nat.reduceEqDiff, ↓reduceIte, Vc.put_some, ev_tmp, ev_const, Int.natCast_add, Int.natCast_one, Int.natCast_zero] <;> rfl) (by simp only [upd_apply, Nat.reduceEqDiff, ↓reduceIte, Vc.put_some, ev_tmp, ev_const, Int.natCast_add, Int.natCast_one, Int.natCast_zero] <;> rfl) (fun w3 hM3 hg3 hsz3 => ?_)
      simp (disch := omega) only [ln29, ln22, ln23, ln9, ln39, idx29, idx22, idx23, idx39, sc3, sc9, sc29, sc4, sc23, fld44_1, sl29lo, true_and, vc_move, vc_assign, vc_pick, vc_load, vc_store, vc_bin, vc_un, vc_idx, vc_fld, vc_nilc, vc_ext, vc_slice, vc_func, vc_box, vc_len, vc_min, vc_nil, vc_guard, gdO_yes, gdO_ft, gdO_tf, gdO_un, gslot_cons0, gslot_consS, Vc.put_some, Vc.put_none, ev_tmp, ev_const, ev_func, upd_apply, Nat.reduceEqDiff, ↓reduceIte, vO_some, loadV_ptr, addrV_ptr, nilV_ptr, pickV_bool, ext2_0, ext2_1, unV_not, minV_int, binX_int, binX_str, binV_eql, binV_neq, binV_lss, binV_leq, binV_gtr, binV_geq, binV_add, binV_sub, binV_mul, add_at, Int.toNat_natCast, Nat.zero_add, Nat.add_zero, List.map_cons, List.map_nil, List.toList_toArray, Option.map_some, Option.map_none, true_and, Bool.false_eq_true]
      refine G.inBlock (G.rg rfl ?_)
      simp (disch := omega) only [ln29, ln22, ln23, ln9, ln39, idx29, idx22, idx23, idx39, sc3, sc9, sc29, sc4, sc23, fld44_1, sl29lo, true_and, vc_move, vc_assign, vc_pick, vc_load, vc_store, vc_bin, vc_un, vc_idx, vc_fld, vc_nilc, vc_ext, vc_slice, vc_func, vc_box, vc_len, vc_min, vc_nil, vc_guard, gdO_yes, gdO_ft, gdO_tf, gdO_un, gslot_cons0, gslot_consS, Vc.put_some, Vc.put_none, ev_tmp, ev_const, ev_func, upd_apply, Nat.reduceEqDiff, ↓reduceIte, vO_some, loadV_ptr, addrV_ptr, nilV_ptr, pickV_bool, ext2_0, ext2_1, unV_not, minV_int, binX_int, binX_str, binV_eql, binV_neq, binV_lss, binV_leq, binV_gtr, binV_geq, binV_add, binV_sub, binV_mul, add_at, Int.toNat_natCast, Nat.zero_add, Nat.add_zero, List.map_cons, List.map_nil, List.toList_toArray, Option.map_some, Option.map_none, true_and, Bool.false_eq_true, r26]
      simp only [ev_const] at hM3
      refine hround (m - (k + 1)) _ _ (by omega) ⟨k + 1, rfl, by omega, (by simp only [upd_apply, Nat.reduceEqDiff, ↓reduceIte, Vc.put_some, ev_tmp, ev_const, Int.natCast_add, Int.natCast_one, Int.natCast_zero, r2] <;> rfl), (by simp only [upd_apply, Nat.reduceEqDiff, ↓reduceIte, Vc.put_some, ev_tmp, ev_const, Int.natCast_add, Int.natCast_one, Int.natCast_zero, r5] <;> rfl), (by simp only [upd_apply, Nat.reduceEqDiff, ↓reduceIte, Vc.put_some, ev_tmp, ev_const, Int.natCast_add, Int.natCast_one, Int.natCast_zero, r6] <;> rfl), (by simp only [upd_apply, Nat.reduceEqDiff, ↓reduceIte, Vc.put_some, ev_tmp, ev_const, Int.natCast_add, Int.natCast_one, Int.natCast_zero, r24] <;> rfl), (by simp only [upd_apply, Nat.reduceEqDiff, ↓reduceIte, Vc.put_some, ev_tmp, ev_const, Int.natCast_add, Int.natCast_one, Int.natCast_zero, r25] <;> rfl), (by simp only [upd_apply, Nat.reduceEqDiff, ↓reduceIte, Vc.put_some, ev_tmp, ev_const, Int.natCast_add, Int.natCast_one, Int.natCast_zero] <;> rfl), below_grown hbl hg3 (Nat.le_refl _) (fun b e => by simp at e; omega), by omega, hg3.cell hbx' (by simp), _, hM3, fun q hq => ?_, fun q hq => ?_⟩
      · by_cases e : q = c k
        · subst e; simp
        · simp only [e, if_false]
          obtain ⟨i, hi, rfl⟩ := hq
          exact hMy _ ⟨i, by by_cases e2 : i = k; (· subst e2; exact absurd rfl e); omega, rfl⟩
      · by_cases e : q = c k
        · subst e; exact absurd ⟨k, by omega, rfl⟩ hq
        · simp only [e, if_false]
          exact hMn q (fun ⟨i, hi, e'⟩ => hq ⟨i, by omega, e'⟩)
    · obtain rfl : k = m := by omega
      exact G.exit (G.exitC hx) (hpost _ _ ⟨(by simp only [upd_apply, Nat.reduceEqDiff, ↓reduceIte, Vc.put_some, ev_tmp, ev_const, Int.natCast_add, Int.natCast_one, Int.natCast_zero, r2] <;> rfl), (by simp only [upd_apply, Nat.reduceEqDiff, ↓reduceIte, Vc.put_some, ev_tmp, ev_const, Int.natCast_add, Int.natCast_one, Int.natCast_zero, r5] <;> rfl), (by simp only [upd_apply, Nat.reduceEqDiff, ↓reduceIte, Vc.put_some, ev_tmp, ev_const, Int.natCast_add, Int.natCast_one, Int.natCast_zero, r6] <;> rfl), hbl, hsz, hbx', M, hM, hMy, hMn⟩)
  rintro ρ3 w3 ⟨r2, r5, r6, hb3, hsz3, hbx3, MI, hMI, hMIy, hMIn⟩
  refine G.sr rfl ?_
  simp (disch := omega) only [ln29, ln22, ln23, ln9, ln39, idx29, idx22, idx23, idx39, sc3, sc9, sc29, sc4, sc23, fld44_1, sl29lo, true_and, vc_move, vc_assign, vc_pick, vc_load, vc_store, vc_bin, vc_un, vc_idx, vc_fld, vc_nilc, vc_ext, vc_slice, vc_func, vc_box, vc_len, vc_min, vc_nil, vc_guard, gdO_yes, gdO_ft, gdO_tf, gdO_un, gslot_cons0, gslot_consS, Vc.put_some, Vc.put_none, ev_tmp, ev_const, ev_func, upd_apply, Nat.reduceEqDiff, ↓reduceIte, vO_some, loadV_ptr, addrV_ptr, nilV_ptr, pickV_bool, ext2_0, ext2_1, unV_not, minV_int, binX_int, binX_str, binV_eql, binV_neq, binV_lss, binV_leq, binV_gtr, binV_geq, binV_add, binV_sub, binV_mul, add_at, Int.toNat_natCast, Nat.zero_add, Nat.add_zero, List.map_cons, List.map_nil, List.toList_toArray, Option.map_some, Option.map_none, true_and, Bool.false_eq_true]
  refine vc_makeMap Try.underlying52 (by rintro x hx; cases hx) (fun w4 hM4 hg4 hsz4 => ?_)
  simp (disch := omega) only [ln29, ln22, ln23, ln9, ln39, idx29, idx22, idx23, idx39, sc3, sc9, sc29, sc4, sc23, fld44_1, sl29lo, true_and, vc_move, vc_assign, vc_pick, vc_load, vc_store, vc_bin, vc_un, vc_idx, vc_fld, vc_nilc, vc_ext, vc_slice, vc_func, vc_box, vc_len, vc_min, vc_nil, vc_guard, gdO_yes, gdO_ft, gdO_tf, gdO_un, gslot_cons0, gslot_consS, Vc.put_some, Vc.put_none, ev_tmp, ev_const, ev_func, upd_apply, Nat.reduceEqDiff, ↓reduceIte, vO_some, loadV_ptr, addrV_ptr, nilV_ptr, pickV_bool, ext2_0, ext2_1, unV_not, minV_int, binX_int, binX_str, binV_eql, binV_neq, binV_lss, binV_leq, binV_gtr, binV_geq, binV_add, binV_sub, binV_mul, add_at, Int.toNat_natCast, Nat.zero_add, Nat.add_zero, List.map_cons, List.map_nil, List.toList_toArray, Option.map_some, Option.map_none, true_and, Bool.false_eq_true, r5]
  rw [hsz3] at hM4 ⊢
  refine vc_insert Try.underlying52 Try.underlying3 hM4 (by simp only [upd_apply, Nat.reduceEqDiff, ↓reduceIte, Vc.put_some, ev_tmp, ev_const, Int.natCast_add, Int.natCast_one, Int.natCast_zero] <;> rfl) (by simp only [upd_apply, Nat.reduceEqDiff, ↓reduceIte, Vc.put_some, ev_tmp, ev_const, Int.natCast_add, Int.natCast_one, Int.natCast_zero, r5] <;> rfl) (fun w5 hM5 hg5 hsz5 => ?_)
  simp (disch := omega) only [ln29, ln22, ln23, ln9, ln39, idx29, idx22, idx23, idx39, sc3, sc9, sc29, sc4, sc23, fld44_1, sl29lo, true_and, vc_move, vc_assign, vc_pick, vc_load, vc_store, vc_bin, vc_un, vc_idx, vc_fld, vc_nilc, vc_ext, vc_slice, vc_func, vc_box, vc_len, vc_min, vc_nil, vc_guard, gdO_yes, gdO_ft, gdO_tf, gdO_un, gslot_cons0, gslot_consS, Vc.put_some, Vc.put_none, ev_tmp, ev_const, ev_func, upd_apply, Nat.reduceEqDiff, ↓reduceIte, vO_some, loadV_ptr, addrV_ptr, nilV_ptr, pickV_bool, ext2_0, ext2_1, unV_not, minV_int, binX_int, binX_str, binV_eql, binV_neq, binV_lss, binV_leq, binV_gtr, binV_geq, binV_add, binV_sub, binV_mul, add_at, Int.toNat_natCast, Nat.zero_add, Nat.add_zero, List.map_cons, List.map_nil, List.toList_toArray, Option.map_some, Option.map_none, true_and, Bool.false_eq_true]
  simp only [ev_const] at hM5
  refine G.sr rfl ?_
  simp (disch := omega) only [ln29, ln22, ln23, ln9, ln39, idx29, idx22, idx23, idx39, sc3, sc9, sc29, sc4, sc23, fld44_1, sl29lo, true_and, vc_move, vc_assign, vc_pick, vc_load, vc_store, vc_bin, vc_un, vc_idx, vc_fld, vc_nilc, vc_ext, vc_slice, vc_func, vc_box, vc_len, vc_min, vc_nil, vc_guard, gdO_yes, gdO_ft, gdO_tf, gdO_un, gslot_cons0, gslot_consS, Vc.put_some, Vc.put_none, ev_tmp, ev_const, ev_func, upd_apply, Nat.reduceEqDiff, ↓reduceIte, vO_some, loadV_ptr, addrV_ptr, nilV_ptr, pickV_bool, ext2_0, ext2_1, unV_not, minV_int, binX_int, binX_str, binV_eql, binV_neq, binV_lss, binV_leq, binV_gtr, binV_geq, binV_add, binV_sub, binV_mul, add_at, Int.toNat_natCast, Nat.zero_add, Nat.add_zero, List.map_cons, List.map_nil, List.toList_toArray, Option.map_some, Option.map_none, true_and, Bool.false_eq_true, r5]
  rw [vc_lit1 29 _ el29 (by simp only [upd_apply, Nat.reduceEqDiff, ↓reduceIte, Vc.put_some, ev_tmp, ev_const, Int.natCast_add, Int.natCast_one, Int.natCast_zero] <;> rfl)]
  simp (disch := omega) only [ln29, ln22, ln23, ln9, ln39, idx29, idx22, idx23, idx39, sc3, sc9, sc29, sc4, sc23, fld44_1, sl29lo, true_and, vc_move, vc_assign, vc_pick, vc_load, vc_store, vc_bin, vc_un, vc_idx, vc_fld, vc_nilc, vc_ext, vc_slice, vc_func, vc_box, vc_len, vc_min, vc_nil, vc_guard, gdO_yes, gdO_ft, gdO_tf, gdO_un, gslot_cons0, gslot_consS, Vc.put_some, Vc.put_none, ev_tmp, ev_const, ev_func, upd_apply, Nat.reduceEqDiff, ↓reduceIte, vO_some, loadV_ptr, addrV_ptr, nilV_ptr, pickV_bool, ext2_0, ext2_1, unV_not, minV_int, binX_int, binX_str, binV_eql, binV_neq, binV_lss, binV_leq, binV_gtr, binV_geq, binV_add, binV_sub, binV_mul, add_at, Int.toNat_natCast, Nat.zero_add, Nat.add_zero, List.map_cons, List.map_nil, List.toList_toArray, Option.map_some, Option.map_none, true_and, Bool.false_eq_true]
  have hsz5' : w5.heap.size = w.heap.size + 3 := by omega
  rw [hsz5']
  have hb4 : Below w.heap.size w w4 := below_grown hb3 hg4 (Nat.le_refl _) (fun b e => by cases e)
  have hb5 : Below w.heap.size w w5 := below_grown hb4 hg5 (Nat.le_refl _) (fun b e => by simp at e; omega)
  have hg6 := grown_alloc w5 (.cells #[.int .i64 (c 0)] 3) none
  have hr6 : (w5.alloc (.cells #[.int .i64 (c 0)] 3)).rowIs (w.heap.size + 3) 3 1 (fun _ => .int .i64 (c 0)) := by
    have := World.rowIs_alloc w5 #[.int .i64 (c 0)] 3 (fun _ => .int .i64 (c 0)) (fun i hi => by
      simp at hi; subst hi; rfl)
    rw [hsz5'] at this
    simpa using this
  have hmem : Mem w (w5.alloc (.cells #[.int .i64 (c 0)] 3)) (.slice (some ⟨bh, oh, none⟩) h c0) m c 0 1 (fun _ => c 0) (fun _ => 0) (w.heap.size + 3) (.slice (some ⟨w.heap.size + 3, 0, none⟩) 1 1) := by
    refine ⟨below_grown hb5 hg6 (Nat.le_refl _) (fun b e => by cases e), hg6.cell (hg5.cell (hg4.cell hbx3 (by simp)) (by simp)) (by simp), ⟨MI, mapI_grown (mapI_grown (mapI_grown hMI hg4 (by simp)) hg5 (by simp)) hg6 (by simp), hMIy, hMIn⟩, ⟨_, mapI_grown hM5 hg6 (by simp), by simp, by omega, fun u hu => ?_⟩, ⟨0, 1, 1, _, rfl, by omega, by omega, hr6, fun i hi => rfl⟩, by omega, by omega⟩
    have := hu 0 (by omega)
    rw [if_neg (fun e => this e.symm)]
  have hbfs : Bfs (Eg L H) (Sc m c) (c 0) 1 (fun _ => c 0) (fun _ => 0) (fun _ => 0) := ⟨by omega, rfl, rfl, by omega, fun _ _ => hSs, by omega, fun _ _ _ _ => Nat.le_refl _⟩
  generalize w5.alloc (.cells #[.int .i64 (c 0)] 3) = w6 at hmem ⊢
  refine G.seq (G.forLoop (fun q ρ' w' => ∃ (hd cnt : Nat) (D : Nat → Int) (par δ : Nat → Nat) (gq : Nat) (vq : Value), q = h - hd ∧ ρ' 2 = .pointer (some ⟨w.heap.size, 0, none⟩) ∧ ρ' 5 = .int .i64 (c 0) ∧ ρ' 6 = .map (some (w.heap.size + 1)) ∧ ρ' 9 = .map (some (w.heap.size + 2)) ∧ ρ' 10 = vq ∧
      Mem w w' (.slice (some ⟨bh, oh, none⟩) h c0) m c hd cnt D par gq vq ∧ Bfs (Eg L H) (Sc m c) (c 0) cnt D par δ ∧ (∀ i, i < hd → Done (Eg L H) (Sc m c) (c 0) cnt D δ i) ∧ (hd < cnt → ∀ j, j < cnt → δ j ≤ δ hd + 1))
    (fun ρ' w' => False) h ?_ ?_ ?_)
  · exact ⟨0, 1, _, _, _, _, _, by omega, (by simp only [upd_apply, Nat.reduceEqDiff, ↓reduceIte, Vc.put_some, ev_tmp, ev_const, Int.natCast_add, Int.natCast_one, Int.natCast_zero, r2] <;> rfl), (by simp only [upd_apply, Nat.reduceEqDiff, ↓reduceIte, Vc.put_some, ev_tmp, ev_const, Int.natCast_add, Int.natCast_one, Int.natCast_zero, r5] <;> rfl), (by simp only [upd_apply, Nat.reduceEqDiff, ↓reduceIte, Vc.put_some, ev_tmp, ev_const, Int.natCast_add, Int.natCast_one, Int.natCast_zero, r6] <;> rfl), (by simp only [upd_apply, Nat.reduceEqDiff, ↓reduceIte, Vc.put_some, ev_tmp, ev_const, Int.natCast_add, Int.natCast_one, Int.natCast_zero] <;> rfl), (by simp only [upd_apply, Nat.reduceEqDiff, ↓reduceIte, Vc.put_some, ev_tmp, ev_const, Int.natCast_add, Int.natCast_one, Int.natCast_zero] <;> rfl), hmem, hbfs, by omega, fun _ j hj => Nat.zero_le _⟩
  · clear hmem hbfs r2 r5 r6
    rintro q ρ' w' ⟨hd, cnt, D, par, δ, gq, vq, rfl, r2, r5, r6, r9, r10, hmem, hbfs, hdone, htop⟩ kL kX hround hx hpost
    have hch' : cnt ≤ h := bfs_le hbfs hS
    have hhd := hmem.hdle
    have hown := hmem.que
    obtain ⟨aq, cq, rfl, hcq', hcellq⟩ := hown.val
    simp only [Nat.mul_one] at hcellq
    refine G.seq (G.sr rfl ?_)
    simp (disch := omega) only [ln29, ln22, ln23, ln9, ln39, idx29, idx22, idx23, idx39, sc3, sc9, sc29, sc4, sc23, fld44_1, sl29lo, true_and, vc_move, vc_assign, vc_pick, vc_load, vc_store, vc_bin, vc_un, vc_idx, vc_fld, vc_nilc, vc_ext, vc_slice, vc_func, vc_box, vc_len, vc_min, vc_nil, vc_guard, gdO_yes, gdO_ft, gdO_tf, gdO_un, gslot_cons0, gslot_consS, Vc.put_some, Vc.put_none, ev_tmp, ev_const, ev_func, upd_apply, Nat.reduceEqDiff, ↓reduceIte, vO_some, loadV_ptr, addrV_ptr, nilV_ptr, pickV_bool, ext2_0, ext2_1, unV_not, minV_int, binX_int, binX_str, binV_eql, binV_neq, binV_lss, binV_leq, binV_gtr, binV_geq, binV_add, binV_sub, binV_mul, add_at, Int.toNat_natCast, Nat.zero_add, Nat.add_zero, List.map_cons, List.map_nil, List.toList_toArray, Option.map_some, Option.map_none, true_and, Bool.false_eq_true, r10]
    refine G.condD (p := (0 : Int) < ((cnt - hd : Nat) : Int)) (by simp only [upd_apply, Nat.reduceEqDiff, ↓reduceIte, Vc.put_some, ev_tmp, ev_const, Int.natCast_add, Int.natCast_one, Int.natCast_zero] <;> rfl) (fun hlt => ?_) (fun hge => ?_)
    · obtain ⟨bq, oq, e1, rfl, hcellq', _⟩ := hcellq (by omega)
      obtain rfl : gq = bq := by simpa using e1
      refine G.skip (G.block (G.sr rfl ?_))
      have eq0 : w'.cell? ⟨gq, oq, none⟩ = some (.int .i64 (D hd)) := by have := hcellq' 0 (by omega); simpa using this
      simp (disch := omega) only [ln29, ln22, ln23, ln9, ln39, idx29, idx22, idx23, idx39, sc3, sc9, sc29, sc4, sc23, fld44_1, sl29lo, true_and, vc_move, vc_assign, vc_pick, vc_load, vc_store, vc_bin, vc_un, vc_idx, vc_fld, vc_nilc, vc_ext, vc_slice, vc_func, vc_box, vc_len, vc_min, vc_nil, vc_guard, gdO_yes, gdO_ft, gdO_tf, gdO_un, gslot_cons0, gslot_consS, Vc.put_some, Vc.put_none, ev_tmp, ev_const, ev_func, upd_apply, Nat.reduceEqDiff, ↓reduceIte, vO_some, loadV_ptr, addrV_ptr, nilV_ptr, pickV_bool, ext2_0, ext2_1, unV_not, minV_int, binX_int, binX_str, binV_eql, binV_neq, binV_lss, binV_leq, binV_gtr, binV_geq, binV_add, binV_sub, binV_mul, add_at, Int.toNat_natCast, Nat.zero_add, Nat.add_zero, List.map_cons, List.map_nil, List.toList_toArray, Option.map_some, Option.map_none, true_and, Bool.false_eq_true, r10, Int.toNat_zero, eq0]
      refine G.sr rfl ?_
      simp (disch := omega) only [ln29, ln22, ln23, ln9, ln39, idx29, idx22, idx23, idx39, sc3, sc9, sc29, sc4, sc23, fld44_1, sl29lo, true_and, vc_move, vc_assign, vc_pick, vc_load, vc_store, vc_bin, vc_un, vc_idx, vc_fld, vc_nilc, vc_ext, vc_slice, vc_func, vc_box, vc_len, vc_min, vc_nil, vc_guard, gdO_yes, gdO_ft, gdO_tf, gdO_un, gslot_cons0, gslot_consS, Vc.put_some, Vc.put_none, ev_tmp, ev_const, ev_func, upd_apply, Nat.reduceEqDiff, ↓reduceIte, vO_some, loadV_ptr, addrV_ptr, nilV_ptr, pickV_bool, ext2_0, ext2_1, unV_not, minV_int, binX_int, binX_str, binV_eql, binV_neq, binV_lss, binV_leq, binV_gtr, binV_geq, binV_add, binV_sub, binV_mul, add_at, Int.toNat_natCast, Nat.zero_add, Nat.add_zero, List.map_cons, List.map_nil, List.toList_toArray, Option.map_some, Option.map_none, true_and, Bool.false_eq_true, r10]
      have ht1 : ((1 : Int).toNat) = 1 := rfl
      have hDhd := hS _ (hbfs.mem hd (by omega))
      obtain ⟨ar, cr, hV, hcr', hcellr⟩ := hrow (D hd).toNat (by omega)
      have hLk := hL (D hd).toNat (by omega)
      have hcells : ∀ i, i < h → w'.cell? ⟨bh, oh + i, none⟩ = some (V i) := fun i hi => below_keep' hmem.below _ _ (hch i hi)
      refine G.sr rfl ?_
      simp (disch := omega) only [ln29, ln22, ln23, ln9, ln39, idx29, idx22, idx23, idx39, sc3, sc9, sc29, sc4, sc23, fld44_1, sl29lo, true_and, vc_move, vc_assign, vc_pick, vc_load, vc_store, vc_bin, vc_un, vc_idx, vc_fld, vc_nilc, vc_ext, vc_slice, vc_func, vc_box, vc_len, vc_min, vc_nil, vc_guard, gdO_yes, gdO_ft, gdO_tf, gdO_un, gslot_cons0, gslot_consS, Vc.put_some, Vc.put_none, ev_tmp, ev_const, ev_func, upd_apply, Nat.reduceEqDiff, ↓reduceIte, vO_some, loadV_ptr, addrV_ptr, nilV_ptr, pickV_bool, ext2_0, ext2_1, unV_not, minV_int, binX_int, binX_str, binV_eql, binV_neq, binV_lss, binV_leq, binV_gtr, binV_geq, binV_add, binV_sub, binV_mul, add_at, Int.toNat_natCast, Nat.zero_add, Nat.add_zero, List.map_cons, List.map_nil, List.toList_toArray, Option.map_some, Option.map_none, true_and, Bool.false_eq_true, r2, hmem.box, hcells, hV]
      -- the members of t
      have hown2 : Own w' (some gq) (.slice (if cq = 1 then some ⟨gq, oq, none⟩ else (some (⟨gq, oq, none⟩ : Addr)).map (·.add 1)) (cnt - hd - 1) (cq - 1)) 3 1 (cnt - (hd + 1)) (fun i => .int .i64 (D (hd + 1 + i))) := by
        have e : cnt - hd = (cnt - hd - 1) + 1 := by omega
        rw [e] at hown
        have := hown.tail
        have e2 : cnt - (hd + 1) = cnt - hd - 1 := by omega
        rw [e2]
        exact this.congr (fun i hi => by show Value.int .i64 (D (hd + (i + 1))) = _; congr 2; omega)
      refine G.forLoop (fun q ρ' w' => ∃ (i cnt : Nat) (D' : Nat → Int) (par δ : Nat → Nat) (gq : Nat) (vq : Value), q = L (D hd).toNat - i ∧ i ≤ L (D hd).toNat ∧ ρ' 2 = .pointer (some ⟨w.heap.size, 0, none⟩) ∧ ρ' 5 = .int .i64 (c 0) ∧ ρ' 6 = .map (some (w.heap.size + 1)) ∧ ρ' 9 = .map (some (w.heap.size + 2)) ∧ ρ' 10 = vq ∧
          ρ' 11 = .int .i64 (D hd) ∧ ρ' 50 = .slice ar (L (D hd).toNat) cr ∧ ρ' 51 = .int .i64 (L (D hd).toNat) ∧ ρ' 52 = .int .i64 i ∧ hd < cnt ∧ D' hd = D hd ∧
          Mem w w' (.slice (some ⟨bh, oh, none⟩) h c0) m c (hd + 1) cnt D' par gq vq ∧ Bfs (Eg L H) (Sc m c) (c 0) cnt D' par δ ∧ (∀ i, i < hd → Done (Eg L H) (Sc m c) (c 0) cnt D' δ i) ∧ (∀ j, j < cnt → δ j ≤ δ hd + 1) ∧
          (∀ i', i' < i → H (D hd).toNat i' ≠ c 0 ∧ (Sc m c (H (D hd).toNat i') → ∃ j, j < cnt ∧ D' j = H (D hd).toNat i')))
        (fun ρ' w' => ∃ (cnt : Nat) (D' : Nat → Int) (par δ : Nat → Nat) (gq : Nat) (vq : Value), ρ' 2 = .pointer (some ⟨w.heap.size, 0, none⟩) ∧ ρ' 5 = .int .i64 (c 0) ∧ ρ' 6 = .map (some (w.heap.size + 1)) ∧ ρ' 9 = .map (some (w.heap.size + 2)) ∧ ρ' 10 = vq ∧ hd < cnt ∧ D' hd = D hd ∧
          Mem w w' (.slice (some ⟨bh, oh, none⟩) h c0) m c (hd + 1) cnt D' par gq vq ∧ Bfs (Eg L H) (Sc m c) (c 0) cnt D' par δ ∧ (∀ i, i < hd → Done (Eg L H) (Sc m c) (c 0) cnt D' δ i) ∧ (∀ j, j < cnt → δ j ≤ δ hd + 1) ∧
          (∀ i', i' < L (D hd).toNat → H (D hd).toNat i' ≠ c 0 ∧ (Sc m c (H (D hd).toNat i') → ∃ j, j < cnt ∧ D' j = H (D hd).toNat i'))) (L (D hd).toNat) ?_ ?_ ?_
      · exact ⟨0, cnt, D, par, δ, gq, _, by omega, by omega, (by simp only [upd_apply, Nat.reduceEqDiff, ↓reduceIte, Vc.put_some, ev_tmp, ev_const, Int.natCast_add, Int.natCast_one, Int.natCast_zero, r2] <;> rfl), (by simp only [upd_apply, Nat.reduceEqDiff, ↓reduceIte, Vc.put_some, ev_tmp, ev_const, Int.natCast_add, Int.natCast_one, Int.natCast_zero, r5] <;> rfl), (by simp only [upd_apply, Nat.reduceEqDiff, ↓reduceIte, Vc.put_some, ev_tmp, ev_const, Int.natCast_add, Int.natCast_one, Int.natCast_zero, r6] <;> rfl), (by simp only [upd_apply, Nat.reduceEqDiff, ↓reduceIte, Vc.put_some, ev_tmp, ev_const, Int.natCast_add, Int.natCast_one, Int.natCast_zero, r9] <;> rfl), (by simp only [upd_apply, Nat.reduceEqDiff, ↓reduceIte, Vc.put_some, ev_tmp, ev_const, Int.natCast_add, Int.natCast_one, Int.natCast_zero, ht1] <;> rfl), (by simp only [upd_apply, Nat.reduceEqDiff, ↓reduceIte, Vc.put_some, ev_tmp, ev_const, Int.natCast_add, Int.natCast_one, Int.natCast_zero] <;> rfl), (by simp only [upd_apply, Nat.reduceEqDiff, ↓reduceIte, Vc.put_some, ev_tmp, ev_const, Int.natCast_add, Int.natCast_one, Int.natCast_zero] <;> rfl), (by simp only [upd_apply, Nat.reduceEqDiff, ↓reduceIte, Vc.put_some, ev_tmp, ev_const, Int.natCast_add, Int.natCast_one, Int.natCast_zero] <;> rfl), (by simp only [upd_apply, Nat.reduceEqDiff, ↓reduceIte, Vc.put_some, ev_tmp, ev_const, Int.natCast_add, Int.natCast_one, Int.natCast_zero] <;> rfl), by omega, rfl, ⟨hmem.below, hmem.box, hmem.inn, hmem.frm, hown2, hmem.gqlo, by omega⟩, hbfs, hdone, htop (by omega), by omega⟩
      · clear hround hpost hmem hbfs hdone htop r2 r5 r6 r9 r10 hown hown2 hcells hch' eq0 hcellq' hx hhd hcq' hcellq
        clear kL kX
        rintro q ρ' w' ⟨i, cnt, D', par, δ, gq, vq, rfl, hi, r2, r5, r6, r9, r10, r11, r50, r51, r52, hlt', eD, hmem, hbfs, hdone, htop, hall⟩ kL kX hround hx hpost
        have hch' : cnt ≤ h := bfs_le hbfs hS
        refine G.sr rfl ?_
        simp (disch := omega) only [ln29, ln22, ln23, ln9, ln39, idx29, idx22, idx23, idx39, sc3, sc9, sc29, sc4, sc23, fld44_1, sl29lo, true_and, vc_move, vc_assign, vc_pick, vc_load, vc_store, vc_bin, vc_un, vc_idx, vc_fld, vc_nilc, vc_ext, vc_slice, vc_func, vc_box, vc_len, vc_min, vc_nil, vc_guard, gdO_yes, gdO_ft, gdO_tf, gdO_un, gslot_cons0, gslot_consS, Vc.put_some, Vc.put_none, ev_tmp, ev_const, ev_func, upd_apply, Nat.reduceEqDiff, ↓reduceIte, vO_some, loadV_ptr, addrV_ptr, nilV_ptr, pickV_bool, ext2_0, ext2_1, unV_not, minV_int, binX_int, binX_str, binV_eql, binV_neq, binV_lss, binV_leq, binV_gtr, binV_geq, binV_add, binV_sub, binV_mul, add_at, Int.toNat_natCast, Nat.zero_add, Nat.add_zero, List.map_cons, List.map_nil, List.toList_toArray, Option.map_some, Option.map_none, true_and, Bool.false_eq_true, r51, r52]
        refine G.seq (G.condD (p := (i : Int) < L (D hd).toNat) (by simp only [upd_apply, Nat.reduceEqDiff, ↓reduceIte, Vc.put_some, ev_tmp, ev_const, Int.natCast_add, Int.natCast_one, Int.natCast_zero] <;> rfl) (fun hlt2 => ?_) (fun hge => ?_))
        · obtain ⟨br, or, rfl, hcr2⟩ := hcellr (by omega)
          have hclr : ∀ i, i < L (D hd).toNat → w'.cell? ⟨br, or + i, none⟩ = some (.int .i64 (H (D hd).toNat i)) := fun i hi => below_keep' hmem.below _ _ (hcr2 i hi)
          have hEu : Eg L H (D' hd) (H (D hd).toNat i) := ⟨i, by rw [eD]; omega, by rw [eD]⟩
          refine G.skip (G.seq (G.meetBlock (fun ρ' w' => ∃ (cnt : Nat) (D' : Nat → Int) (par δ : Nat → Nat) (gq : Nat) (vq : Value), ρ' 2 = .pointer (some ⟨w.heap.size, 0, none⟩) ∧ ρ' 5 = .int .i64 (c 0) ∧ ρ' 6 = .map (some (w.heap.size + 1)) ∧ ρ' 9 = .map (some (w.heap.size + 2)) ∧ ρ' 10 = vq ∧
          ρ' 11 = .int .i64 (D hd) ∧ ρ' 50 = .slice (some ⟨br, or, none⟩) (L (D hd).toNat) cr ∧ ρ' 51 = .int .i64 (L (D hd).toNat) ∧ ρ' 52 = .int .i64 i ∧ hd < cnt ∧ D' hd = D hd ∧
          Mem w w' (.slice (some ⟨bh, oh, none⟩) h c0) m c (hd + 1) cnt D' par gq vq ∧ Bfs (Eg L H) (Sc m c) (c 0) cnt D' par δ ∧ (∀ i, i < hd → Done (Eg L H) (Sc m c) (c 0) cnt D' δ i) ∧ (∀ j, j < cnt → δ j ≤ δ hd + 1) ∧
          (∀ i', i' < i + 1 → H (D hd).toNat i' ≠ c 0 ∧ (Sc m c (H (D hd).toNat i') → ∃ j, j < cnt ∧ D' j = H (D hd).toNat i'))) ?_ ?_))
          · intro k' hk'
            refine G.sr rfl ?_
            simp (disch := omega) only [ln29, ln22, ln23, ln9, ln39, idx29, idx22, idx23, idx39, sc3, sc9, sc29, sc4, sc23, fld44_1, sl29lo, true_and, vc_move, vc_assign, vc_pick, vc_load, vc_store, vc_bin, vc_un, vc_idx, vc_fld, vc_nilc, vc_ext, vc_slice, vc_func, vc_box, vc_len, vc_min, vc_nil, vc_guard, gdO_yes, gdO_ft, gdO_tf, gdO_un, gslot_cons0, gslot_consS, Vc.put_some, Vc.put_none, ev_tmp, ev_const, ev_func, upd_apply, Nat.reduceEqDiff, ↓reduceIte, vO_some, loadV_ptr, addrV_ptr, nilV_ptr, pickV_bool, ext2_0, ext2_1, unV_not, minV_int, binX_int, binX_str, binV_eql, binV_neq, binV_lss, binV_leq, binV_gtr, binV_geq, binV_add, binV_sub, binV_mul, add_at, Int.toNat_natCast, Nat.zero_add, Nat.add_zero, List.map_cons, List.map_nil, List.toList_toArray, Option.map_some, Option.map_none, true_and, Bool.false_eq_true, r50, r52, hclr]
            refine G.seq (G.sr rfl ?_)
            simp (disch := omega) only [ln29, ln22, ln23, ln9, ln39, idx29, idx22, idx23, idx39, sc3, sc9, sc29, sc4, sc23, fld44_1, sl29lo, true_and, vc_move, vc_assign, vc_pick, vc_load, vc_store, vc_bin, vc_un, vc_idx, vc_fld, vc_nilc, vc_ext, vc_slice, vc_func, vc_box, vc_len, vc_min, vc_nil, vc_guard, gdO_yes, gdO_ft, gdO_tf, gdO_un, gslot_cons0, gslot_consS, Vc.put_some, Vc.put_none, ev_tmp, ev_const, ev_func, upd_apply, Nat.reduceEqDiff, ↓reduceIte, vO_some, loadV_ptr, addrV_ptr, nilV_ptr, pickV_bool, ext2_0, ext2_1, unV_not, minV_int, binX_int, binX_str, binV_eql, binV_neq, binV_lss, binV_leq, binV_gtr, binV_geq, binV_add, binV_sub, binV_mul, add_at, Int.toNat_natCast, Nat.zero_add, Nat.add_zero, List.map_cons, List.map_nil, List.toList_toArray, Option.map_some, Option.map_none, true_and, Bool.false_eq_true, r5]
            refine G.condEq (by simp only [upd_apply, Nat.reduceEqDiff, ↓reduceIte, Vc.put_some, ev_tmp, ev_const, Int.natCast_add, Int.natCast_one, Int.natCast_zero] <;> rfl) (fun he => ?_) (fun hne => ?_)
            · -- back at the start
              rw [he] at hEu
              have hchain := chain_of_bfs hbfs hlt' hdone hEu
              obtain ⟨M, hM, hM0, hM1, hM2⟩ := hmem.frm
              refine G.sr rfl ?_
              simp (disch := omega) only [ln29, ln22, ln23, ln9, ln39, idx29, idx22, idx23, idx39, sc3, sc9, sc29, sc4, sc23, fld44_1, sl29lo, true_and, vc_move, vc_assign, vc_pick, vc_load, vc_store, vc_bin, vc_un, vc_idx, vc_fld, vc_nilc, vc_ext, vc_slice, vc_func, vc_box, vc_len, vc_min, vc_nil, vc_guard, gdO_yes, gdO_ft, gdO_tf, gdO_un, gslot_cons0, gslot_consS, Vc.put_some, Vc.put_none, ev_tmp, ev_const, ev_func, upd_apply, Nat.reduceEqDiff, ↓reduceIte, vO_some, loadV_ptr, addrV_ptr, nilV_ptr, pickV_bool, ext2_0, ext2_1, unV_not, minV_int, binX_int, binX_str, binV_eql, binV_neq, binV_lss, binV_leq, binV_gtr, binV_geq, binV_add, binV_sub, binV_mul, add_at, Int.toNat_natCast, Nat.zero_add, Nat.add_zero, List.map_cons, List.map_nil, List.toList_toArray, Option.map_some, Option.map_none, true_and, Bool.false_eq_true]
              refine G.seq (G.sr rfl ?_)
              simp (disch := omega) only [ln29, ln22, ln23, ln9, ln39, idx29, idx22, idx23, idx39, sc3, sc9, sc29, sc4, sc23, fld44_1, sl29lo, true_and, vc_move, vc_assign, vc_pick, vc_load, vc_store, vc_bin, vc_un, vc_idx, vc_fld, vc_nilc, vc_ext, vc_slice, vc_func, vc_box, vc_len, vc_min, vc_nil, vc_guard, gdO_yes, gdO_ft, gdO_tf, gdO_un, gslot_cons0, gslot_consS, Vc.put_some, Vc.put_none, ev_tmp, ev_const, ev_func, upd_apply, Nat.reduceEqDiff, ↓reduceIte, vO_some, loadV_ptr, addrV_ptr, nilV_ptr, pickV_bool, ext2_0, ext2_1, unV_not, minV_int, binX_int, binX_str, binV_eql, binV_neq, binV_lss, binV_leq, binV_gtr, binV_geq, binV_add, binV_sub, binV_mul, add_at, Int.toNat_natCast, Nat.zero_add, Nat.add_zero, List.map_cons, List.map_nil, List.toList_toArray, Option.map_some, Option.map_none, true_and, Bool.false_eq_true, r11]
              refine G.forLoop (fun q ρ' w'' => ∃ (k : Nat) (g : Option Nat) (vc : Value), q = δ hd + 1 - k ∧ k ≤ δ hd + 1 ∧ ρ' 5 = .int .i64 (c 0) ∧ ρ' 9 = .map (some (w.heap.size + 2)) ∧ ρ' 14 = vc ∧ ρ' 15 = .int .i64 (if k ≤ δ hd then D' (anc par hd k) else -1) ∧
                  Below w.heap.size w w'' ∧ MapI w'' (w.heap.size + 2) M ∧ w'.heap.size ≤ w''.heap.size ∧ Own w'' g vc 3 1 k (fun i => .int .i64 (D' (anc par hd i))) ∧ (∀ b, g = some b → w'.heap.size ≤ b))
                (fun ρ' w'' => ∃ (b : Nat) (vc : Value), ρ' 5 = .int .i64 (c 0) ∧ ρ' 14 = vc ∧ Below w.heap.size w w'' ∧ w'.heap.size ≤ w''.heap.size ∧ Own w'' (some b) vc 3 1 (δ hd + 1) (fun i => .int .i64 (D' (anc par hd i))) ∧ w'.heap.size ≤ b) (δ hd + 1) ?_ ?_ ?_
              · refine ⟨0, none, _, by omega, by omega, (by simp only [upd_apply, Nat.reduceEqDiff, ↓reduceIte, Vc.put_some, ev_tmp, ev_const, Int.natCast_add, Int.natCast_one, Int.natCast_zero, r5] <;> rfl), (by simp only [upd_apply, Nat.reduceEqDiff, ↓reduceIte, Vc.put_some, ev_tmp, ev_const, Int.natCast_add, Int.natCast_one, Int.natCast_zero, r9] <;> rfl), (by simp only [upd_apply, Nat.reduceEqDiff, ↓reduceIte, Vc.put_some, ev_tmp, ev_const, Int.natCast_add, Int.natCast_one, Int.natCast_zero] <;> rfl), ?_, hmem.below, hM, Nat.le_refl _, ⟨rfl, rfl⟩, by simp⟩
                simp only [upd_apply, Nat.reduceEqDiff, ↓reduceIte, Nat.zero_le, if_true]
                show Value.int .i64 (D hd) = .int .i64 (D' hd)
                rw [eD]
              · clear r5 r9
                rintro q ρ' w'' ⟨k, g, vch, rfl, hk, r5, r9, r14, r15, hbl, hM', hsz', hown, hgl⟩ kL kX hround hx hpost
                have hwlt : w.heap.size + 3 ≤ w'.heap.size := by have := hmem.que.lt; have := hmem.gqlo; omega
                have hδh : δ hd ≤ 131072 := by
                  have h1 := chain_le hchain ((List.range h).map (fun n : Nat => (n : Int))) (fun x hx => by
                    have := hS x hx
                    exact List.mem_map.2 ⟨x.toNat, by simp; omega, by omega⟩)
                  simp at h1; omega
                refine G.seq (G.sr rfl ?_)
                simp (disch := omega) only [ln29, ln22, ln23, ln9, ln39, idx29, idx22, idx23, idx39, sc3, sc9, sc29, sc4, sc23, fld44_1, sl29lo, true_and, vc_move, vc_assign, vc_pick, vc_load, vc_store, vc_bin, vc_un, vc_idx, vc_fld, vc_nilc, vc_ext, vc_slice, vc_func, vc_box, vc_len, vc_min, vc_nil, vc_guard, gdO_yes, gdO_ft, gdO_tf, gdO_un, gslot_cons0, gslot_consS, Vc.put_some, Vc.put_none, ev_tmp, ev_const, ev_func, upd_apply, Nat.reduceEqDiff, ↓reduceIte, vO_some, loadV_ptr, addrV_ptr, nilV_ptr, pickV_bool, ext2_0, ext2_1, unV_not, minV_int, binX_int, binX_str, binV_eql, binV_neq, binV_lss, binV_leq, binV_gtr, binV_geq, binV_add, binV_sub, binV_mul, add_at, Int.toNat_natCast, Nat.zero_add, Nat.add_zero, List.map_cons, List.map_nil, List.toList_toArray, Option.map_some, Option.map_none, true_and, Bool.false_eq_true, r15]
                by_cases hkk : k ≤ δ hd
                · have hanc := anc_spec hbfs hlt' k hkk
                  have hDa := hS _ (hbfs.mem _ hanc.1)
                  rw [if_pos hkk]
                  rw [if_pos hkk] at r15
                  refine G.condNe (by simp only [upd_apply, Nat.reduceEqDiff, ↓reduceIte, Vc.put_some, ev_tmp, ev_const, Int.natCast_add, Int.natCast_one, Int.natCast_zero] <;> rfl) (fun hne' => ?_) (fun he' => ?_)
                  · refine G.skip (G.seq (G.block (G.rg rfl ?_)))
                    simp (disch := omega) only [ln29, ln22, ln23, ln9, ln39, idx29, idx22, idx23, idx39, sc3, sc9, sc29, sc4, sc23, fld44_1, sl29lo, true_and, vc_move, vc_assign, vc_pick, vc_load, vc_store, vc_bin, vc_un, vc_idx, vc_fld, vc_nilc, vc_ext, vc_slice, vc_func, vc_box, vc_len, vc_min, vc_nil, vc_guard, gdO_yes, gdO_ft, gdO_tf, gdO_un, gslot_cons0, gslot_consS, Vc.put_some, Vc.put_none, ev_tmp, ev_const, ev_func, upd_apply, Nat.reduceEqDiff, ↓reduceIte, vO_some, loadV_ptr, addrV_ptr, nilV_ptr, pickV_bool, ext2_0, ext2_1, unV_not, minV_int, binX_int, binX_str, binV_eql, binV_neq, binV_lss, binV_leq, binV_gtr, binV_geq, binV_add, binV_sub, binV_mul, add_at, Int.toNat_natCast, Nat.zero_add, Nat.add_zero, List.map_cons, List.map_nil, List.toList_toArray, Option.map_some, Option.map_none, true_and, Bool.false_eq_true, r14, r15]
                    refine vc_app1 em29 hown el29 (x := .int .i64 (D' (anc par hd k))) (by simp only [upd_apply, Nat.reduceEqDiff, ↓reduceIte, Vc.put_some, ev_tmp, ev_const, Int.natCast_add, Int.natCast_one, Int.natCast_zero] <;> rfl) rfl (by simp only [upd_apply, Nat.reduceEqDiff, ↓reduceIte, Vc.put_some, ev_tmp, ev_const, Int.natCast_add, Int.natCast_one, Int.natCast_zero] <;> rfl) (by omega) (by omega) ?_
                    intro v' w3' g' hown3 hg3 hgs hgn
                    simp (disch := omega) only [ln29, ln22, ln23, ln9, ln39, idx29, idx22, idx23, idx39, sc3, sc9, sc29, sc4, sc23, fld44_1, sl29lo, true_and, vc_move, vc_assign, vc_pick, vc_load, vc_store, vc_bin, vc_un, vc_idx, vc_fld, vc_nilc, vc_ext, vc_slice, vc_func, vc_box, vc_len, vc_min, vc_nil, vc_guard, gdO_yes, gdO_ft, gdO_tf, gdO_un, gslot_cons0, gslot_consS, Vc.put_some, Vc.put_none, ev_tmp, ev_const, ev_func, upd_apply, Nat.reduceEqDiff, ↓reduceIte, vO_some, loadV_ptr, addrV_ptr, nilV_ptr, pickV_bool, ext2_0, ext2_1, unV_not, minV_int, binX_int, binX_str, binV_eql, binV_neq, binV_lss, binV_leq, binV_gtr, binV_geq, binV_add, binV_sub, binV_mul, add_at, Int.toNat_natCast, Nat.zero_add, Nat.add_zero, List.map_cons, List.map_nil, List.toList_toArray, Option.map_some, Option.map_none, true_and, Bool.false_eq_true]
                    refine G.inBlock (G.rg rfl ?_)
                    simp (disch := omega) only [ln29, ln22, ln23, ln9, ln39, idx29, idx22, idx23, idx39, sc3, sc9, sc29, sc4, sc23, fld44_1, sl29lo, true_and, vc_move, vc_assign, vc_pick, vc_load, vc_store, vc_bin, vc_un, vc_idx, vc_fld, vc_nilc, vc_ext, vc_slice, vc_func, vc_box, vc_len, vc_min, vc_nil, vc_guard, gdO_yes, gdO_ft, gdO_tf, gdO_un, gslot_cons0, gslot_consS, Vc.put_some, Vc.put_none, ev_tmp, ev_const, ev_func, upd_apply, Nat.reduceEqDiff, ↓reduceIte, vO_some, loadV_ptr, addrV_ptr, nilV_ptr, pickV_bool, ext2_0, ext2_1, unV_not, minV_int, binX_int, binX_str, binV_eql, binV_neq, binV_lss, binV_leq, binV_gtr, binV_geq, binV_add, binV_sub, binV_mul, add_at, Int.toNat_natCast, Nat.zero_add, Nat.add_zero, List.map_cons, List.map_nil, List.toList_toArray, Option.map_some, Option.map_none, true_and, Bool.false_eq_true, r9, r15]
                    have hM3 := mapI_grown hM' hg3 (fun e => by have := hgl _ e.symm; omega)
                    refine vc_lookup Try.underlying52 Try.underlying3 z3 hM3 (by simp only [upd_apply, Nat.reduceEqDiff, ↓reduceIte, Vc.put_some, ev_tmp, ev_const, Int.natCast_add, Int.natCast_one, Int.natCast_zero] <;> rfl) (by simp only [upd_apply, Nat.reduceEqDiff, ↓reduceIte, Vc.put_some, ev_tmp, ev_const, Int.natCast_add, Int.natCast_one, Int.natCast_zero] <;> rfl) ?_
                    simp (disch := omega) only [ln29, ln22, ln23, ln9, ln39, idx29, idx22, idx23, idx39, sc3, sc9, sc29, sc4, sc23, fld44_1, sl29lo, true_and, vc_move, vc_assign, vc_pick, vc_load, vc_store, vc_bin, vc_un, vc_idx, vc_fld, vc_nilc, vc_ext, vc_slice, vc_func, vc_box, vc_len, vc_min, vc_nil, vc_guard, gdO_yes, gdO_ft, gdO_tf, gdO_un, gslot_cons0, gslot_consS, Vc.put_some, Vc.put_none, ev_tmp, ev_const, ev_func, upd_apply, Nat.reduceEqDiff, ↓reduceIte, vO_some, loadV_ptr, addrV_ptr, nilV_ptr, pickV_bool, ext2_0, ext2_1, unV_not, minV_int, binX_int, binX_str, binV_eql, binV_neq, binV_lss, binV_leq, binV_gtr, binV_geq, binV_add, binV_sub, binV_mul, add_at, Int.toNat_natCast, Nat.zero_add, Nat.add_zero, List.map_cons, List.map_nil, List.toList_toArray, Option.map_some, Option.map_none, true_and, Bool.false_eq_true]
                    refine hround (δ hd + 1 - (k + 1)) _ _ (by omega) ⟨k + 1, g', v', rfl, by omega, (by simp only [upd_apply, Nat.reduceEqDiff, ↓reduceIte, Vc.put_some, ev_tmp, ev_const, Int.natCast_add, Int.natCast_one, Int.natCast_zero, r5] <;> rfl), (by simp only [upd_apply, Nat.reduceEqDiff, ↓reduceIte, Vc.put_some, ev_tmp, ev_const, Int.natCast_add, Int.natCast_one, Int.natCast_zero, r9] <;> rfl), (by simp only [upd_apply, Nat.reduceEqDiff, ↓reduceIte, Vc.put_some, ev_tmp, ev_const, Int.natCast_add, Int.natCast_one, Int.natCast_zero] <;> rfl), ?_, below_grown hbl hg3 (Nat.le_refl _) (fun b e => by have := hgl b e; omega), hM3, by have := hg3.size; omega, hown3.congr (fun j hj => ?_), fun b e => ?_⟩
                    · simp only [upd_apply, Nat.reduceEqDiff, ↓reduceIte]
                      by_cases hk2 : k + 1 ≤ δ hd
                      · rw [if_pos hk2]
                        have hpos := anc_pos hbfs hlt' (k := k) (by omega)
                        rw [hM1 _ hpos hanc.1]
                        rfl
                      · rw [if_neg hk2]
                        obtain rfl : k = δ hd := by omega
                        rw [anc_end hbfs hlt', hbfs.d0, hM0]
                        rfl
                    · by_cases e : j < k
                      · simp [e]
                      · obtain rfl : j = k := by omega
                        simp
                    · rcases hgs b e with h' | h'
                      · exact hgl b h'
                      · omega
                  · omega
                · obtain rfl : k = δ hd + 1 := by omega
                  rw [if_neg hkk]
                  refine G.condNe (by simp only [upd_apply, Nat.reduceEqDiff, ↓reduceIte, Vc.put_some, ev_tmp, ev_const, Int.natCast_add, Int.natCast_one, Int.natCast_zero] <;> rfl) (fun hne' => absurd rfl hne') (fun he' => ?_)
                  cases g with
                  | none => obtain ⟨_, e⟩ := hown; omega
                  | some b => exact G.exit hx (hpost _ _ ⟨b, vch, (by simp only [upd_apply, Nat.reduceEqDiff, ↓reduceIte, Vc.put_some, ev_tmp, ev_const, Int.natCast_add, Int.natCast_one, Int.natCast_zero, r5] <;> rfl), (by simp only [upd_apply, Nat.reduceEqDiff, ↓reduceIte, Vc.put_some, ev_tmp, ev_const, Int.natCast_add, Int.natCast_one, Int.natCast_zero, r14] <;> rfl), hbl, hsz', hown, hgl b rfl⟩)
              · clear r5 r9
                rintro ρ' w'' ⟨b, vch, r5, r14, hbl, hsz', hown, hgl⟩
                have hwlt : w.heap.size + 3 ≤ w'.heap.size := by have := hmem.que.lt; have := hmem.gqlo; omega
                have hδh : δ hd ≤ 131072 := by
                  have h1 := chain_le hchain ((List.range h).map (fun n : Nat => (n : Int))) (fun x hx => by
                    have := hS x hx
                    exact List.mem_map.2 ⟨x.toNat, by simp; omega, by omega⟩)
                  simp at h1; omega
                refine G.sr rfl ?_
                simp (disch := omega) only [ln29, ln22, ln23, ln9, ln39, idx29, idx22, idx23, idx39, sc3, sc9, sc29, sc4, sc23, fld44_1, sl29lo, true_and, vc_move, vc_assign, vc_pick, vc_load, vc_store, vc_bin, vc_un, vc_idx, vc_fld, vc_nilc, vc_ext, vc_slice, vc_func, vc_box, vc_len, vc_min, vc_nil, vc_guard, gdO_yes, gdO_ft, gdO_tf, gdO_un, gslot_cons0, gslot_consS, Vc.put_some, Vc.put_none, ev_tmp, ev_const, ev_func, upd_apply, Nat.reduceEqDiff, ↓reduceIte, vO_some, loadV_ptr, addrV_ptr, nilV_ptr, pickV_bool, ext2_0, ext2_1, unV_not, minV_int, binX_int, binX_str, binV_eql, binV_neq, binV_lss, binV_leq, binV_gtr, binV_geq, binV_add, binV_sub, binV_mul, add_at, Int.toNat_natCast, Nat.zero_add, Nat.add_zero, List.map_cons, List.map_nil, List.toList_toArray, Option.map_some, Option.map_none, true_and, Bool.false_eq_true, r14]
                refine vc_call hb26 rfl (vs := #[vch]) (by simp [ev, upd_apply]) (reverse_any hown (by omega)) ?_
                rintro e w3' ⟨rfl, hown3, hg3⟩
                refine ⟨_, rfl, ?_⟩
                simp (disch := omega) only [ln29, ln22, ln23, ln9, ln39, idx29, idx22, idx23, idx39, sc3, sc9, sc29, sc4, sc23, fld44_1, sl29lo, true_and, vc_move, vc_assign, vc_pick, vc_load, vc_store, vc_bin, vc_un, vc_idx, vc_fld, vc_nilc, vc_ext, vc_slice, vc_func, vc_box, vc_len, vc_min, vc_nil, vc_guard, gdO_yes, gdO_ft, gdO_tf, gdO_un, gslot_cons0, gslot_consS, Vc.put_some, Vc.put_none, ev_tmp, ev_const, ev_func, upd_apply, Nat.reduceEqDiff, ↓reduceIte, vO_some, loadV_ptr, addrV_ptr, nilV_ptr, pickV_bool, ext2_0, ext2_1, unV_not, minV_int, binX_int, binX_str, binV_eql, binV_neq, binV_lss, binV_leq, binV_gtr, binV_geq, binV_add, binV_sub, binV_mul, add_at, Int.toNat_natCast, Nat.zero_add, Nat.add_zero, List.map_cons, List.map_nil, List.toList_toArray, Option.map_some, Option.map_none, true_and, Bool.false_eq_true]
                refine G.sr rfl ?_
                simp (disch := omega) only [ln29, ln22, ln23, ln9, ln39, idx29, idx22, idx23, idx39, sc3, sc9, sc29, sc4, sc23, fld44_1, sl29lo, true_and, vc_move, vc_assign, vc_pick, vc_load, vc_store, vc_bin, vc_un, vc_idx, vc_fld, vc_nilc, vc_ext, vc_slice, vc_func, vc_box, vc_len, vc_min, vc_nil, vc_guard, gdO_yes, gdO_ft, gdO_tf, gdO_un, gslot_cons0, gslot_consS, Vc.put_some, Vc.put_none, ev_tmp, ev_const, ev_func, upd_apply, Nat.reduceEqDiff, ↓reduceIte, vO_some, loadV_ptr, addrV_ptr, nilV_ptr, pickV_bool, ext2_0, ext2_1, unV_not, minV_int, binX_int, binX_str, binV_eql, binV_neq, binV_lss, binV_leq, binV_gtr, binV_geq, binV_add, binV_sub, binV_mul, add_at, Int.toNat_natCast, Nat.zero_add, Nat.add_zero, List.map_cons, List.map_nil, List.toList_toArray, Option.map_some, Option.map_none, true_and, Bool.false_eq_true, r14, r5]
                refine vc_app1 em29 hown3 el29 (x := .int .i64 (c 0)) (by simp only [upd_apply, Nat.reduceEqDiff, ↓reduceIte, Vc.put_some, ev_tmp, ev_const, Int.natCast_add, Int.natCast_one, Int.natCast_zero] <;> rfl) rfl (by simp only [upd_apply, Nat.reduceEqDiff, ↓reduceIte, Vc.put_some, ev_tmp, ev_const, Int.natCast_add, Int.natCast_one, Int.natCast_zero] <;> rfl) (by omega) (by omega) ?_
                intro v' w4' g' hown4 hg4 hgs hgn
                simp (disch := omega) only [ln29, ln22, ln23, ln9, ln39, idx29, idx22, idx23, idx39, sc3, sc9, sc29, sc4, sc23, fld44_1, sl29lo, true_and, vc_move, vc_assign, vc_pick, vc_load, vc_store, vc_bin, vc_un, vc_idx, vc_fld, vc_nilc, vc_ext, vc_slice, vc_func, vc_box, vc_len, vc_min, vc_nil, vc_guard, gdO_yes, gdO_ft, gdO_tf, gdO_un, gslot_cons0, gslot_consS, Vc.put_some, Vc.put_none, ev_tmp, ev_const, ev_func, upd_apply, Nat.reduceEqDiff, ↓reduceIte, vO_some, loadV_ptr, addrV_ptr, nilV_ptr, pickV_bool, ext2_0, ext2_1, unV_not, minV_int, binX_int, binX_str, binV_eql, binV_neq, binV_lss, binV_leq, binV_gtr, binV_geq, binV_add, binV_sub, binV_mul, add_at, Int.toNat_natCast, Nat.zero_add, Nat.add_zero, List.map_cons, List.map_nil, List.toList_toArray, Option.map_some, Option.map_none, true_and, Bool.false_eq_true]
                have hb3' := below_grown hbl hg3 (Nat.le_refl _) (fun b' e => by simp at e; omega)
                have hb4' := below_grown hb3' hg4 (Nat.le_refl _) (fun b' e => by simp at e; omega)
                refine G.ret1 Try.func23 rfl (by simp only [upd_apply, Nat.reduceEqDiff, ↓reduceIte, Vc.put_some, ev_tmp, ev_const, Int.natCast_add, Int.natCast_one, Int.natCast_zero] <;> rfl) ⟨v', δ hd + 1, _, rfl, ?_, hchain, hb4'⟩
                obtain ⟨a, cap, hv, hcap, hc⟩ := hown4.val
                simp only [Nat.mul_one] at hc
                refine ⟨a, cap, hv, hcap, fun hp => ?_⟩
                obtain ⟨b', off, hgb, e1, e2, _⟩ := hc hp
                refine ⟨b', off, e1, ?_, fun j hj => ?_⟩
                · have hsz3 := hg3.size
                  rcases hgs b' hgb with h' | h'
                  · simp at h'; omega
                  · omega
                rw [e2 j hj]
                by_cases e : j < δ hd + 1
                · rw [if_pos e]
                  show some (Value.int .i64 (D' (anc par hd (δ hd + 1 - 1 - j)))) = some (.int .i64 (if j ≤ δ hd then D' (anc par hd (δ hd - j)) else c 0))
                  rw [if_pos (by omega)]
                  have : δ hd + 1 - 1 - j = δ hd - j := by omega
                  rw [this]
                · rw [if_neg e]
                  show some (Value.int .i64 (c 0)) = some (.int .i64 (if j ≤ δ hd then D' (anc par hd (δ hd - j)) else c 0))
                  rw [if_neg (by omega)]
            · -- on
              obtain ⟨M, hM, hM0, hM1, hM2⟩ := hmem.frm
              obtain ⟨MI, hMI, hMIy, hMIn⟩ := hmem.inn
              refine G.skip (G.sr rfl ?_)
              simp (disch := omega) only [ln29, ln22, ln23, ln9, ln39, idx29, idx22, idx23, idx39, sc3, sc9, sc29, sc4, sc23, fld44_1, sl29lo, true_and, vc_move, vc_assign, vc_pick, vc_load, vc_store, vc_bin, vc_un, vc_idx, vc_fld, vc_nilc, vc_ext, vc_slice, vc_func, vc_box, vc_len, vc_min, vc_nil, vc_guard, gdO_yes, gdO_ft, gdO_tf, gdO_un, gslot_cons0, gslot_consS, Vc.put_some, Vc.put_none, ev_tmp, ev_const, ev_func, upd_apply, Nat.reduceEqDiff, ↓reduceIte, vO_some, loadV_ptr, addrV_ptr, nilV_ptr, pickV_bool, ext2_0, ext2_1, unV_not, minV_int, binX_int, binX_str, binV_eql, binV_neq, binV_lss, binV_leq, binV_gtr, binV_geq, binV_add, binV_sub, binV_mul, add_at, Int.toNat_natCast, Nat.zero_add, Nat.add_zero, List.map_cons, List.map_nil, List.toList_toArray, Option.map_some, Option.map_none, true_and, Bool.false_eq_true, r9]
              refine vc_lookup Try.underlying52 Try.underlying3 z3 hM (by simp only [upd_apply, Nat.reduceEqDiff, ↓reduceIte, Vc.put_some, ev_tmp, ev_const, Int.natCast_add, Int.natCast_one, Int.natCast_zero] <;> rfl) (by simp only [upd_apply, Nat.reduceEqDiff, ↓reduceIte, Vc.put_some, ev_tmp, ev_const, Int.natCast_add, Int.natCast_one, Int.natCast_zero] <;> rfl) ?_
              simp (disch := omega) only [ln29, ln22, ln23, ln9, ln39, idx29, idx22, idx23, idx39, sc3, sc9, sc29, sc4, sc23, fld44_1, sl29lo, true_and, vc_move, vc_assign, vc_pick, vc_load, vc_store, vc_bin, vc_un, vc_idx, vc_fld, vc_nilc, vc_ext, vc_slice, vc_func, vc_box, vc_len, vc_min, vc_nil, vc_guard, gdO_yes, gdO_ft, gdO_tf, gdO_un, gslot_cons0, gslot_consS, Vc.put_some, Vc.put_none, ev_tmp, ev_const, ev_func, upd_apply, Nat.reduceEqDiff, ↓reduceIte, vO_some, loadV_ptr, addrV_ptr, nilV_ptr, pickV_bool, ext2_0, ext2_1, unV_not, minV_int, binX_int, binX_str, binV_eql, binV_neq, binV_lss, binV_leq, binV_gtr, binV_geq, binV_add, binV_sub, binV_mul, add_at, Int.toNat_natCast, Nat.zero_add, Nat.add_zero, List.map_cons, List.map_nil, List.toList_toArray, Option.map_some, Option.map_none, true_and, Bool.false_eq_true, if_true]
              have skip : ∀ ρ'' : Env, ρ'' 2 = .pointer (some ⟨w.heap.size, 0, none⟩) → ρ'' 5 = .int .i64 (c 0) → ρ'' 6 = .map (some (w.heap.size + 1)) → ρ'' 9 = .map (some (w.heap.size + 2)) → ρ'' 10 = vq → ρ'' 11 = .int .i64 (D hd) → ρ'' 50 = .slice (some ⟨br, or, none⟩) (L (D hd).toNat) cr → ρ'' 51 = .int .i64 (L (D hd).toNat) → ρ'' 52 = .int .i64 i → (Sc m c (H (D hd).toNat i) → ∃ j, j < cnt ∧ D' j = H (D hd).toNat i) → G Try.prog Try.f23 23 97 _ k' ρ'' w' :=
                fun ρ'' q2 q5 q6 q9 q10 q11 q50 q51 q52 hno => hk' _ _ ⟨cnt, D', par, δ, gq, vq, q2, q5, q6, q9, q10, q11, q50, q51, q52, hlt', eD, hmem, hbfs, hdone, htop, fun i' hi' => by
                  by_cases e : i' = i
                  · subst e; exact ⟨hne, hno⟩
                  · exact hall i' (by omega)⟩
              by_cases hdisc : ∃ j, j < cnt ∧ D' j = H (D hd).toNat i
              · have hsome : (M (H (D hd).toNat i)).isSome = true := by
                  obtain ⟨j, hj, e⟩ := hdisc
                  rw [← e]
                  by_cases hj0 : j = 0
                  · subst hj0; rw [hbfs.d0, hM0]; rfl
                  · rw [hM1 j (by omega) hj]; rfl
                refine G.sr rfl ?_
                simp (disch := omega) only [ln29, ln22, ln23, ln9, ln39, idx29, idx22, idx23, idx39, sc3, sc9, sc29, sc4, sc23, fld44_1, sl29lo, true_and, vc_move, vc_assign, vc_pick, vc_load, vc_store, vc_bin, vc_un, vc_idx, vc_fld, vc_nilc, vc_ext, vc_slice, vc_func, vc_box, vc_len, vc_min, vc_nil, vc_guard, gdO_yes, gdO_ft, gdO_tf, gdO_un, gslot_cons0, gslot_consS, Vc.put_some, Vc.put_none, ev_tmp, ev_const, ev_func, upd_apply, Nat.reduceEqDiff, ↓reduceIte, vO_some, loadV_ptr, addrV_ptr, nilV_ptr, pickV_bool, ext2_0, ext2_1, unV_not, minV_int, binX_int, binX_str, binV_eql, binV_neq, binV_lss, binV_leq, binV_gtr, binV_geq, binV_add, binV_sub, binV_mul, add_at, Int.toNat_natCast, Nat.zero_add, Nat.add_zero, List.map_cons, List.map_nil, List.toList_toArray, Option.map_some, Option.map_none, true_and, Bool.false_eq_true, hsome, Bool.not_true]
                refine G.condF (by simp only [upd_apply, Nat.reduceEqDiff, ↓reduceIte, Vc.put_some, ev_tmp, ev_const, Int.natCast_add, Int.natCast_one, Int.natCast_zero] <;> rfl) (G.skip (G.inBlock (skip _ (by simp only [upd_apply, Nat.reduceEqDiff, ↓reduceIte, Vc.put_some, ev_tmp, ev_const, Int.natCast_add, Int.natCast_one, Int.natCast_zero, r2] <;> rfl) (by simp only [upd_apply, Nat.reduceEqDiff, ↓reduceIte, Vc.put_some, ev_tmp, ev_const, Int.natCast_add, Int.natCast_one, Int.natCast_zero, r5] <;> rfl) (by simp only [upd_apply, Nat.reduceEqDiff, ↓reduceIte, Vc.put_some, ev_tmp, ev_const, Int.natCast_add, Int.natCast_one, Int.natCast_zero, r6] <;> rfl) (by simp only [upd_apply, Nat.reduceEqDiff, ↓reduceIte, Vc.put_some, ev_tmp, ev_const, Int.natCast_add, Int.natCast_one, Int.natCast_zero, r9] <;> rfl) (by simp only [upd_apply, Nat.reduceEqDiff, ↓reduceIte, Vc.put_some, ev_tmp, ev_const, Int.natCast_add, Int.natCast_one, Int.natCast_zero, r10] <;> rfl) (by simp only [upd_apply, Nat.reduceEqDiff, ↓reduceIte, Vc.put_some, ev_tmp, ev_const, Int.natCast_add, Int.natCast_one, Int.natCast_zero, r11] <;> rfl) (by simp only [upd_apply, Nat.reduceEqDiff, ↓reduceIte, Vc.put_some, ev_tmp, ev_const, Int.natCast_add, Int.natCast_one, Int.natCast_zero, r50] <;> rfl) (by simp only [upd_apply, Nat.reduceEqDiff, ↓reduceIte, Vc.put_some, ev_tmp, ev_const, Int.natCast_add, Int.natCast_one, Int.natCast_zero, r51] <;> rfl) (by simp only [upd_apply, Nat.reduceEqDiff, ↓reduceIte, Vc.put_some, ev_tmp, ev_const, Int.natCast_add, Int.natCast_one, Int.natCast_zero, r52] <;> rfl) (fun _ => hdisc))))
              · have hnone : (M (H (D hd).toNat i)).isSome = false := by
                  rw [hM2 _ (fun j hj e => hdisc ⟨j, hj, e⟩)]; rfl
                refine G.sr rfl ?_
                simp (disch := omega) only [ln29, ln22, ln23, ln9, ln39, idx29, idx22, idx23, idx39, sc3, sc9, sc29, sc4, sc23, fld44_1, sl29lo, true_and, vc_move, vc_assign, vc_pick, vc_load, vc_store, vc_bin, vc_un, vc_idx, vc_fld, vc_nilc, vc_ext, vc_slice, vc_func, vc_box, vc_len, vc_min, vc_nil, vc_guard, gdO_yes, gdO_ft, gdO_tf, gdO_un, gslot_cons0, gslot_consS, Vc.put_some, Vc.put_none, ev_tmp, ev_const, ev_func, upd_apply, Nat.reduceEqDiff, ↓reduceIte, vO_some, loadV_ptr, addrV_ptr, nilV_ptr, pickV_bool, ext2_0, ext2_1, unV_not, minV_int, binX_int, binX_str, binV_eql, binV_neq, binV_lss, binV_leq, binV_gtr, binV_geq, binV_add, binV_sub, binV_mul, add_at, Int.toNat_natCast, Nat.zero_add, Nat.add_zero, List.map_cons, List.map_nil, List.toList_toArray, Option.map_some, Option.map_none, true_and, Bool.false_eq_true, hnone, Bool.not_false, r6]
                refine vc_lookup Try.underlying51 Try.underlying3 z4 hMI (by simp only [upd_apply, Nat.reduceEqDiff, ↓reduceIte, Vc.put_some, ev_tmp, ev_const, Int.natCast_add, Int.natCast_one, Int.natCast_zero, r6] <;> rfl) (by simp only [upd_apply, Nat.reduceEqDiff, ↓reduceIte, Vc.put_some, ev_tmp, ev_const, Int.natCast_add, Int.natCast_one, Int.natCast_zero] <;> rfl) ?_
                by_cases hSu : Sc m c (H (D hd).toNat i)
                · simp (disch := omega) only [ln29, ln22, ln23, ln9, ln39, idx29, idx22, idx23, idx39, sc3, sc9, sc29, sc4, sc23, fld44_1, sl29lo, true_and, vc_move, vc_assign, vc_pick, vc_load, vc_store, vc_bin, vc_un, vc_idx, vc_fld, vc_nilc, vc_ext, vc_slice, vc_func, vc_box, vc_len, vc_min, vc_nil, vc_guard, gdO_yes, gdO_ft, gdO_tf, gdO_un, gslot_cons0, gslot_consS, Vc.put_some, Vc.put_none, ev_tmp, ev_const, ev_func, upd_apply, Nat.reduceEqDiff, ↓reduceIte, vO_some, loadV_ptr, addrV_ptr, nilV_ptr, pickV_bool, ext2_0, ext2_1, unV_not, minV_int, binX_int, binX_str, binV_eql, binV_neq, binV_lss, binV_leq, binV_gtr, binV_geq, binV_add, binV_sub, binV_mul, add_at, Int.toNat_natCast, Nat.zero_add, Nat.add_zero, List.map_cons, List.map_nil, List.toList_toArray, Option.map_some, Option.map_none, true_and, Bool.false_eq_true, hMIy _ hSu, Option.getD_some]
                  refine G.condT (by simp only [upd_apply, Nat.reduceEqDiff, ↓reduceIte, Vc.put_some, ev_tmp, ev_const, Int.natCast_add, Int.natCast_one, Int.natCast_zero] <;> rfl) (G.sr rfl ?_)
                  simp (disch := omega) only [ln29, ln22, ln23, ln9, ln39, idx29, idx22, idx23, idx39, sc3, sc9, sc29, sc4, sc23, fld44_1, sl29lo, true_and, vc_move, vc_assign, vc_pick, vc_load, vc_store, vc_bin, vc_un, vc_idx, vc_fld, vc_nilc, vc_ext, vc_slice, vc_func, vc_box, vc_len, vc_min, vc_nil, vc_guard, gdO_yes, gdO_ft, gdO_tf, gdO_un, gslot_cons0, gslot_consS, Vc.put_some, Vc.put_none, ev_tmp, ev_const, ev_func, upd_apply, Nat.reduceEqDiff, ↓reduceIte, vO_some, loadV_ptr, addrV_ptr, nilV_ptr, pickV_bool, ext2_0, ext2_1, unV_not, minV_int, binX_int, binX_str, binV_eql, binV_neq, binV_lss, binV_leq, binV_gtr, binV_geq, binV_add, binV_sub, binV_mul, add_at, Int.toNat_natCast, Nat.zero_add, Nat.add_zero, List.map_cons, List.map_nil, List.toList_toArray, Option.map_some, Option.map_none, true_and, Bool.false_eq_true, r9, r11]
                  refine vc_update Try.underlying52 Try.underlying3 hM (by simp only [upd_apply, Nat.reduceEqDiff, ↓reduceIte, Vc.put_some, ev_tmp, ev_const, Int.natCast_add, Int.natCast_one, Int.natCast_zero] <;> rfl) (by simp only [upd_apply, Nat.reduceEqDiff, ↓reduceIte, Vc.put_some, ev_tmp, ev_const, Int.natCast_add, Int.natCast_one, Int.natCast_zero] <;> rfl) (fun w3' hM3 hg3 hsz3' => ?_)
                  simp (disch := omega) only [ln29, ln22, ln23, ln9, ln39, idx29, idx22, idx23, idx39, sc3, sc9, sc29, sc4, sc23, fld44_1, sl29lo, true_and, vc_move, vc_assign, vc_pick, vc_load, vc_store, vc_bin, vc_un, vc_idx, vc_fld, vc_nilc, vc_ext, vc_slice, vc_func, vc_box, vc_len, vc_min, vc_nil, vc_guard, gdO_yes, gdO_ft, gdO_tf, gdO_un, gslot_cons0, gslot_consS, Vc.put_some, Vc.put_none, ev_tmp, ev_const, ev_func, upd_apply, Nat.reduceEqDiff, ↓reduceIte, vO_some, loadV_ptr, addrV_ptr, nilV_ptr, pickV_bool, ext2_0, ext2_1, unV_not, minV_int, binX_int, binX_str, binV_eql, binV_neq, binV_lss, binV_leq, binV_gtr, binV_geq, binV_add, binV_sub, binV_mul, add_at, Int.toNat_natCast, Nat.zero_add, Nat.add_zero, List.map_cons, List.map_nil, List.toList_toArray, Option.map_some, Option.map_none, true_and, Bool.false_eq_true]
                  refine G.rg rfl ?_
                  simp (disch := omega) only [ln29, ln22, ln23, ln9, ln39, idx29, idx22, idx23, idx39, sc3, sc9, sc29, sc4, sc23, fld44_1, sl29lo, true_and, vc_move, vc_assign, vc_pick, vc_load, vc_store, vc_bin, vc_un, vc_idx, vc_fld, vc_nilc, vc_ext, vc_slice, vc_func, vc_box, vc_len, vc_min, vc_nil, vc_guard, gdO_yes, gdO_ft, gdO_tf, gdO_un, gslot_cons0, gslot_consS, Vc.put_some, Vc.put_none, ev_tmp, ev_const, ev_func, upd_apply, Nat.reduceEqDiff, ↓reduceIte, vO_some, loadV_ptr, addrV_ptr, nilV_ptr, pickV_bool, ext2_0, ext2_1, unV_not, minV_int, binX_int, binX_str, binV_eql, binV_neq, binV_lss, binV_leq, binV_gtr, binV_geq, binV_add, binV_sub, binV_mul, add_at, Int.toNat_natCast, Nat.zero_add, Nat.add_zero, List.map_cons, List.map_nil, List.toList_toArray, Option.map_some, Option.map_none, true_and, Bool.false_eq_true, r10]
                  have hq3 := own_grown hmem.que hg3 (fun b e => by simp at e; subst e; have := hmem.gqlo; simp; omega)
                  refine vc_app1 em29 hq3 el29 (x := .int .i64 (H (D hd).toNat i)) (by simp only [upd_apply, Nat.reduceEqDiff, ↓reduceIte, Vc.put_some, ev_tmp, ev_const, Int.natCast_add, Int.natCast_one, Int.natCast_zero] <;> rfl) rfl (by simp only [upd_apply, Nat.reduceEqDiff, ↓reduceIte, Vc.put_some, ev_tmp, ev_const, Int.natCast_add, Int.natCast_one, Int.natCast_zero] <;> rfl) (by omega) (by omega) ?_
                  intro v' w4' g' hown4 hg4 hgs hgn
                  simp (disch := omega) only [ln29, ln22, ln23, ln9, ln39, idx29, idx22, idx23, idx39, sc3, sc9, sc29, sc4, sc23, fld44_1, sl29lo, true_and, vc_move, vc_assign, vc_pick, vc_load, vc_store, vc_bin, vc_un, vc_idx, vc_fld, vc_nilc, vc_ext, vc_slice, vc_func, vc_box, vc_len, vc_min, vc_nil, vc_guard, gdO_yes, gdO_ft, gdO_tf, gdO_un, gslot_cons0, gslot_consS, Vc.put_some, Vc.put_none, ev_tmp, ev_const, ev_func, upd_apply, Nat.reduceEqDiff, ↓reduceIte, vO_some, loadV_ptr, addrV_ptr, nilV_ptr, pickV_bool, ext2_0, ext2_1, unV_not, minV_int, binX_int, binX_str, binV_eql, binV_neq, binV_lss, binV_leq, binV_gtr, binV_geq, binV_add, binV_sub, binV_mul, add_at, Int.toNat_natCast, Nat.zero_add, Nat.add_zero, List.map_cons, List.map_nil, List.toList_toArray, Option.map_some, Option.map_none, true_and, Bool.false_eq_true]
                  obtain ⟨g4, rfl⟩ := Option.ne_none_iff_exists'.1 hgn
                  have hgq4 : w.heap.size + 3 ≤ g4 := by
                    have h1 := hmem.gqlo
                    have h2 := hmem.que.lt
                    rcases hgs g4 rfl with h' | h'
                    · simp at h'; omega
                    · omega
                  have hgq := hmem.gqlo
                  refine G.inBlock (hk' _ _ ⟨cnt + 1, fun j => if j = cnt then H (D hd).toNat i else D' j, fun j => if j = cnt then hd else par j, fun j => if j = cnt then δ hd + 1 else δ j, g4, v', (by simp only [upd_apply, Nat.reduceEqDiff, ↓reduceIte, Vc.put_some, ev_tmp, ev_const, Int.natCast_add, Int.natCast_one, Int.natCast_zero, r2] <;> rfl), (by simp only [upd_apply, Nat.reduceEqDiff, ↓reduceIte, Vc.put_some, ev_tmp, ev_const, Int.natCast_add, Int.natCast_one, Int.natCast_zero, r5] <;> rfl), (by simp only [upd_apply, Nat.reduceEqDiff, ↓reduceIte, Vc.put_some, ev_tmp, ev_const, Int.natCast_add, Int.natCast_one, Int.natCast_zero, r6] <;> rfl), (by simp only [upd_apply, Nat.reduceEqDiff, ↓reduceIte, Vc.put_some, ev_tmp, ev_const, Int.natCast_add, Int.natCast_one, Int.natCast_zero, r9] <;> rfl), (by simp only [upd_apply, Nat.reduceEqDiff, ↓reduceIte, Vc.put_some, ev_tmp, ev_const, Int.natCast_add, Int.natCast_one, Int.natCast_zero] <;> rfl), (by simp only [upd_apply, Nat.reduceEqDiff, ↓reduceIte, Vc.put_some, ev_tmp, ev_const, Int.natCast_add, Int.natCast_one, Int.natCast_zero, r11] <;> rfl), (by simp only [upd_apply, Nat.reduceEqDiff, ↓reduceIte, Vc.put_some, ev_tmp, ev_const, Int.natCast_add, Int.natCast_one, Int.natCast_zero, r50] <;> rfl), (by simp only [upd_apply, Nat.reduceEqDiff, ↓reduceIte, Vc.put_some, ev_tmp, ev_const, Int.natCast_add, Int.natCast_one, Int.natCast_zero, r51] <;> rfl), (by simp only [upd_apply, Nat.reduceEqDiff, ↓reduceIte, Vc.put_some, ev_tmp, ev_const, Int.natCast_add, Int.natCast_one, Int.natCast_zero, r52] <;> rfl), by omega, by simp only; rw [if_neg (by omega)]; exact eD, ?_, bfs_add hbfs hlt' hSu hEu (fun j hj e => hdisc ⟨j, hj, e⟩) htop, fun j hj => done_add (c := hd) (by omega) (hdone j hj), fun j hj => ?_, fun i' hi' => ?_⟩)
                  · have hEv : ∀ ρq : Env, ev ρq (.tmp 90) = ρq 90 := fun _ => rfl
                    refine ⟨below_grown (below_grown hmem.below hg3 (Nat.le_refl _) (fun b e => by simp at e; omega)) hg4 (Nat.le_refl _) (fun b e => by simp at e; omega), hg4.cell (hg3.cell hmem.box (by simp)) (by simp; omega), ⟨MI, mapI_grown (mapI_grown hMI hg3 (by simp)) hg4 (by simp; omega), hMIy, hMIn⟩, ⟨_, mapI_grown hM3 hg4 (by simp; omega), ?_, ?_, ?_⟩, own_len hown4 ?_ ?_, hgq4, by omega⟩
                    · try simp only
                      rw [if_neg (fun e => hne e.symm)]; exact hM0
                    · intro j hj0 hj
                      try simp only
                      by_cases e : j = cnt
                      · subst e
                        rw [if_pos rfl, if_pos rfl, if_pos rfl, if_neg (by omega), eD]
                        simp only [ev_tmp, upd_apply, Nat.reduceEqDiff, ↓reduceIte]
                      · have hp := (hbfs.par j hj0 (by omega)).1
                        rw [if_neg e, if_neg e, if_neg (fun e' => hdisc ⟨j, by omega, e'⟩), if_neg (show ¬ par j = cnt by omega)]
                        exact hM1 j hj0 (by omega)
                    · intro u hu
                      try simp only
                      have h1 := hu cnt (by omega)
                      simp only [if_true] at h1
                      rw [if_neg (fun e => h1 e.symm)]
                      refine hM2 u (fun j hj => ?_)
                      have h2 := hu j (by omega)
                      rw [if_neg (by omega)] at h2
                      exact h2
                    · omega
                    · intro j hj
                      try simp only
                      by_cases e : j < cnt - (hd + 1)
                      · rw [if_pos e, if_neg (by omega)]
                      · rw [if_neg e, if_pos (by omega)]
                  · try simp only
                    rw [if_neg (show ¬ hd = cnt by omega)]
                    by_cases e : j = cnt
                    · rw [if_pos e]; exact Nat.le_refl _
                    · rw [if_neg e]; exact htop j (by omega)
                  · by_cases e : i' = i
                    · subst e; exact ⟨hne, fun _ => ⟨cnt, by omega, by simp⟩⟩
                    · obtain ⟨h1, h2⟩ := hall i' (by omega)
                      refine ⟨h1, fun hs => ?_⟩
                      obtain ⟨j, hj, hDj⟩ := h2 hs
                      exact ⟨j, by omega, by simp only; rw [if_neg (by omega)]; exact hDj⟩
                · simp (disch := omega) only [ln29, ln22, ln23, ln9, ln39, idx29, idx22, idx23, idx39, sc3, sc9, sc29, sc4, sc23, fld44_1, sl29lo, true_and, vc_move, vc_assign, vc_pick, vc_load, vc_store, vc_bin, vc_un, vc_idx, vc_fld, vc_nilc, vc_ext, vc_slice, vc_func, vc_box, vc_len, vc_min, vc_nil, vc_guard, gdO_yes, gdO_ft, gdO_tf, gdO_un, gslot_cons0, gslot_consS, Vc.put_some, Vc.put_none, ev_tmp, ev_const, ev_func, upd_apply, Nat.reduceEqDiff, ↓reduceIte, vO_some, loadV_ptr, addrV_ptr, nilV_ptr, pickV_bool, ext2_0, ext2_1, unV_not, minV_int, binX_int, binX_str, binV_eql, binV_neq, binV_lss, binV_leq, binV_gtr, binV_geq, binV_add, binV_sub, binV_mul, add_at, Int.toNat_natCast, Nat.zero_add, Nat.add_zero, List.map_cons, List.map_nil, List.toList_toArray, Option.map_some, Option.map_none, true_and, Bool.false_eq_true, hMIn _ hSu, Option.getD_none]
                  refine G.condF (by simp only [upd_apply, Nat.reduceEqDiff, ↓reduceIte, Vc.put_some, ev_tmp, ev_const, Int.natCast_add, Int.natCast_one, Int.natCast_zero] <;> rfl) (G.skip (G.inBlock (skip _ (by simp only [upd_apply, Nat.reduceEqDiff, ↓reduceIte, Vc.put_some, ev_tmp, ev_const, Int.natCast_add, Int.natCast_one, Int.natCast_zero, r2] <;> rfl) (by simp only [upd_apply, Nat.reduceEqDiff, ↓reduceIte, Vc.put_some, ev_tmp, ev_const, Int.natCast_add, Int.natCast_one, Int.natCast_zero, r5] <;> rfl) (by simp only [upd_apply, Nat.reduceEqDiff, ↓reduceIte, Vc.put_some, ev_tmp, ev_const, Int.natCast_add, Int.natCast_one, Int.natCast_zero, r6] <;> rfl) (by simp only [upd_apply, Nat.reduceEqDiff, ↓reduceIte, Vc.put_some, ev_tmp, ev_const, Int.natCast_add, Int.natCast_one, Int.natCast_zero, r9] <;> rfl) (by simp only [upd_apply, Nat.reduceEqDiff, ↓reduceIte, Vc.put_some, ev_tmp, ev_const, Int.natCast_add, Int.natCast_one, Int.natCast_zero, r10] <;> rfl) (by simp only [upd_apply, Nat.reduceEqDiff, ↓reduceIte, Vc.put_some, ev_tmp, ev_const, Int.natCast_add, Int.natCast_one, Int.natCast_zero, r11] <;> rfl) (by simp only [upd_apply, Nat.reduceEqDiff, ↓reduceIte, Vc.put_some, ev_tmp, ev_const, Int.natCast_add, Int.natCast_one, Int.natCast_zero, r50] <;> rfl) (by simp only [upd_apply, Nat.reduceEqDiff, ↓reduceIte, Vc.put_some, ev_tmp, ev_const, Int.natCast_add, Int.natCast_one, Int.natCast_zero, r51] <;> rfl) (by simp only [upd_apply, Nat.reduceEqDiff, ↓reduceIte, Vc.put_some, ev_tmp, ev_const, Int.natCast_add, Int.natCast_one, Int.natCast_zero, r52] <;> rfl) (fun hs => absurd hs hSu))))
          · clear r2 r5 r6 r9 r10 r11 r50 r51 r52 hmem hbfs hdone htop hall hclr hEu
            rintro ρ' w' ⟨cnt, D', par, δ, gq, vq, r2, r5, r6, r9, r10, r11, r50, r51, r52, hlt', eD, hmem, hbfs, hdone, htop, hall⟩
            refine G.rg rfl ?_
            simp (disch := omega) only [ln29, ln22, ln23, ln9, ln39, idx29, idx22, idx23, idx39, sc3, sc9, sc29, sc4, sc23, fld44_1, sl29lo, true_and, vc_move, vc_assign, vc_pick, vc_load, vc_store, vc_bin, vc_un, vc_idx, vc_fld, vc_nilc, vc_ext, vc_slice, vc_func, vc_box, vc_len, vc_min, vc_nil, vc_guard, gdO_yes, gdO_ft, gdO_tf, gdO_un, gslot_cons0, gslot_consS, Vc.put_some, Vc.put_none, ev_tmp, ev_const, ev_func, upd_apply, Nat.reduceEqDiff, ↓reduceIte, vO_some, loadV_ptr, addrV_ptr, nilV_ptr, pickV_bool, ext2_0, ext2_1, unV_not, minV_int, binX_int, binX_str, binV_eql, binV_neq, binV_lss, binV_leq, binV_gtr, binV_geq, binV_add, binV_sub, binV_mul, add_at, Int.toNat_natCast, Nat.zero_add, Nat.add_zero, List.map_cons, List.map_nil, List.toList_toArray, Option.map_some, Option.map_none, true_and, Bool.false_eq_true, r52]
            exact hround (L (D hd).toNat - (i + 1)) _ _ (by omega) ⟨i + 1, cnt, D', par, δ, gq, vq, rfl, by omega, (by simp only [upd_apply, Nat.reduceEqDiff, ↓reduceIte, Vc.put_some, ev_tmp, ev_const, Int.natCast_add, Int.natCast_one, Int.natCast_zero, r2] <;> rfl), (by simp only [upd_apply, Nat.reduceEqDiff, ↓reduceIte, Vc.put_some, ev_tmp, ev_const, Int.natCast_add, Int.natCast_one, Int.natCast_zero, r5] <;> rfl), (by simp only [upd_apply, Nat.reduceEqDiff, ↓reduceIte, Vc.put_some, ev_tmp, ev_const, Int.natCast_add, Int.natCast_one, Int.natCast_zero, r6] <;> rfl), (by simp only [upd_apply, Nat.reduceEqDiff, ↓reduceIte, Vc.put_some, ev_tmp, ev_const, Int.natCast_add, Int.natCast_one, Int.natCast_zero, r9] <;> rfl), (by simp only [upd_apply, Nat.reduceEqDiff, ↓reduceIte, Vc.put_some, ev_tmp, ev_const, Int.natCast_add, Int.natCast_one, Int.natCast_zero, r10] <;> rfl), (by simp only [upd_apply, Nat.reduceEqDiff, ↓reduceIte, Vc.put_some, ev_tmp, ev_const, Int.natCast_add, Int.natCast_one, Int.natCast_zero, r11] <;> rfl), (by simp only [upd_apply, Nat.reduceEqDiff, ↓reduceIte, Vc.put_some, ev_tmp, ev_const, Int.natCast_add, Int.natCast_one, Int.natCast_zero, r50] <;> rfl), (by simp only [upd_apply, Nat.reduceEqDiff, ↓reduceIte, Vc.put_some, ev_tmp, ev_const, Int.natCast_add, Int.natCast_one, Int.natCast_zero, r51] <;> rfl), (by simp only [upd_apply, Nat.reduceEqDiff, ↓reduceIte, Vc.put_some, ev_tmp, ev_const, Int.natCast_add, Int.natCast_one, Int.natCast_zero] <;> rfl), hlt', eD, hmem, hbfs, hdone, htop, hall⟩
        · obtain rfl : i = L (D hd).toNat := by omega
          exact G.exit (G.exitC hx) (hpost _ _ ⟨cnt, D', par, δ, gq, vq, (by simp only [upd_apply, Nat.reduceEqDiff, ↓reduceIte, Vc.put_some, ev_tmp, ev_const, Int.natCast_add, Int.natCast_one, Int.natCast_zero, r2] <;> rfl), (by simp only [upd_apply, Nat.reduceEqDiff, ↓reduceIte, Vc.put_some, ev_tmp, ev_const, Int.natCast_add, Int.natCast_one, Int.natCast_zero, r5] <;> rfl), (by simp only [upd_apply, Nat.reduceEqDiff, ↓reduceIte, Vc.put_some, ev_tmp, ev_const, Int.natCast_add, Int.natCast_one, Int.natCast_zero, r6] <;> rfl), (by simp only [upd_apply, Nat.reduceEqDiff, ↓reduceIte, Vc.put_some, ev_tmp, ev_const, Int.natCast_add, Int.natCast_one, Int.natCast_zero, r9] <;> rfl), (by simp only [upd_apply, Nat.reduceEqDiff, ↓reduceIte, Vc.put_some, ev_tmp, ev_const, Int.natCast_add, Int.natCast_one, Int.natCast_zero, r10] <;> rfl), hlt', eD, hmem, hbfs, hdone, htop, hall⟩)
      · clear hmem hbfs hdone htop r2 r5 r6 r9 r10 hown hown2 hcells hch' eq0 hcellq'
        rintro ρ' w' ⟨cnt, D', par, δ, gq, vq, r2, r5, r6, r9, r10, hlt', eD, hmem, hbfs, hdone, htop, hall⟩
        have hch' : cnt ≤ h := bfs_le hbfs hS
        refine G.inBlock (hround (h - (hd + 1)) _ _ (by omega) ⟨hd + 1, cnt, D', par, δ, gq, vq, rfl, r2, r5, r6, r9, r10, hmem, hbfs, fun i hi => ?_, fun hl j hj => ?_⟩)
        · by_cases e : i = hd
          · subst e
            rintro u ⟨i', hi', rfl⟩
            rw [eD] at hi' ⊢
            obtain ⟨h1, h2⟩ := hall i' hi'
            refine ⟨h1, fun hs => ?_⟩
            obtain ⟨j, hj, hDj⟩ := h2 hs
            exact ⟨j, hj, hDj, htop j hj⟩
          · exact hdone i (by omega)
        · have h1 := htop j hj
          have h2 := hbfs.mono hd (hd + 1) (by omega) hl
          omega
    · exfalso
      obtain ⟨l, t, hw, he⟩ := hcl
      exact bfs_none hbfs (fun i hi => hdone i (by omega)) hw he
  · rintro ρ' w' hf; exact hf.elim
end Go.Proofs.Qxb6603705a
