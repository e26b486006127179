import Derived.Test.Qxb6603705aTm
import Derived.Test.Qxb6603705aRev
set_option linter.unusedVariables false
set_option linter.unusedSimpArgs false
namespace Go.Proofs.Qxb6603705a
open Go Go.Vc Go.RowKit Go.Gr

theorem sc46 : scalarB Try.prog 46 = true := by kernel_rfl
theorem sc39 : scalarB Try.prog 39 = true := by kernel_rfl
theorem em46 : Elem Try.prog 46 48 2 16 (.agg #[.int .i64 0, .int .i64 0]) := ⟨Try.underlying46, by kernel_rfl, by kernel_rfl⟩
theorem build48 (u : Int) (w : World) : (Instr.build 48 #[(0, .int .i64 u)]).run Try.prog w = .ok (.agg #[.int .i64 u, .int .i64 0]) w := by kernel_rfl
def ptr (b : Nat) : Value := .pointer (some ⟨b, 0, none⟩)

theorem own_atom {w : World} {g : Option Nat} {v : Value} {e : TypeId} {s n : Nat} {F : Nat → Value} (h : Own w g v e s n F) : atomB v = true := by
  obtain ⟨a, c, rfl, _⟩ := h.val; rfl

set_option maxHeartbeats 2000000 in
theorem visit_any {w0 w : World} {n : Nat} {v0 : Value} {s : TS} {gs gk gc : Option Nat} {vs vk vc' : Value} {CV : Nat → Value} (h : TM w0 n v0 s gs gk gc vs vk vc' CV w) {u : Nat} (hu : u < n) (hn : n ≤ 131072) (hc : s.cnt ≤ n) (hns : s.ns ≤ n) (hnk : s.nk ≤ n) :
    Calls Try.prog 24 #[.int .i64 u, ptr (w0.heap.size + 8), ptr (w0.heap.size + 2), ptr (w0.heap.size + 4), ptr (w0.heap.size + 7), ptr (w0.heap.size + 6), ptr (w0.heap.size + 9)] w
      (fun e w' => e = .returned (.tuple #[]) ∧ ∃ gs' gk' vs' vk', TM w0 n v0 (visitS s u) gs' gk' gc vs' vk' vc' CV w') := by
  refine calls Try.func24 rfl Try.ntmps24 (by simp) (fun ρ hρ => ?_)
  have h0 : ρ 0 = .int .i64 u := hρ 0 (by simp)
  have h1 : ρ 1 = .pointer (some ⟨w0.heap.size + 8, 0, none⟩) := hρ 1 (by simp)
  have h2 : ρ 2 = .pointer (some ⟨w0.heap.size + 2, 0, none⟩) := hρ 2 (by simp)
  have h3 : ρ 3 = .pointer (some ⟨w0.heap.size + 4, 0, none⟩) := hρ 3 (by simp)
  have h4 : ρ 4 = .pointer (some ⟨w0.heap.size + 7, 0, none⟩) := hρ 4 (by simp)
  have h5 : ρ 5 = .pointer (some ⟨w0.heap.size + 6, 0, none⟩) := hρ 5 (by simp)
  have h6 : ρ 6 = .pointer (some ⟨w0.heap.size + 9, 0, none⟩) := hρ 6 (by simp)
  clear hρ
  have c0 : w.cell? ⟨w0.heap.size + 8, 0, none⟩ = some (.int .i64 s.cnt) := h.cB.cell (by omega)
  refine G.sr rfl ?_
  simp (disch := omega) only [ln29, ln39, idx29, idx39, sc3, sc29, sc4, sc39, sc46, true_and, vc_move, vc_assign, vc_pick, vc_load, vc_store, vc_bin, vc_un, vc_idx, vc_fld, vc_nilc, vc_ext, vc_slice, vc_func, vc_box, vc_len, vc_min, vc_nil, vc_guard, gdO_yes, gdO_ft, gdO_tf, gdO_un, gslot_cons0, gslot_consS, Vc.put_some, Vc.put_none, ev_tmp, ev_const, ev_func, upd_apply, Nat.reduceEqDiff, ↓reduceIte, vO_some, loadV_ptr, addrV_ptr, nilV_ptr, pickV_bool, ext2_0, ext2_1, unV_not, minV_int, binX_int, binX_str, binV_eql, binV_neq, binV_lss, binV_leq, binV_gtr, binV_geq, binV_add, binV_sub, binV_mul, add_at, Int.toNat_natCast, Nat.zero_add, Nat.add_zero, List.map_cons, List.map_nil, List.toList_toArray, Option.map_some, Option.map_none, true_and, Bool.false_eq_true, h1, c0]
  have e1 : Value.int .i64 ((s.cnt : Int) + 1) = iN (s.cnt + 1) := by simp [iN]
  rw [e1, stO_ok (by rw [c0]; rfl) (h.cB.frozen _) rfl]
  simp (disch := omega) only [ln29, ln39, idx29, idx39, sc3, sc29, sc4, sc39, sc46, true_and, vc_move, vc_assign, vc_pick, vc_load, vc_store, vc_bin, vc_un, vc_idx, vc_fld, vc_nilc, vc_ext, vc_slice, vc_func, vc_box, vc_len, vc_min, vc_nil, vc_guard, gdO_yes, gdO_ft, gdO_tf, gdO_un, gslot_cons0, gslot_consS, Vc.put_some, Vc.put_none, ev_tmp, ev_const, ev_func, upd_apply, Nat.reduceEqDiff, ↓reduceIte, vO_some, loadV_ptr, addrV_ptr, nilV_ptr, pickV_bool, ext2_0, ext2_1, unV_not, minV_int, binX_int, binX_str, binV_eql, binV_neq, binV_lss, binV_leq, binV_gtr, binV_geq, binV_add, binV_sub, binV_mul, add_at, Int.toNat_natCast, Nat.zero_add, Nat.add_zero, List.map_cons, List.map_nil, List.toList_toArray, Option.map_some, Option.map_none, true_and, Bool.false_eq_true]
  have H1 := (h.setCnt (s.cnt + 1)).grow (grown_drew _ none)
  generalize hw1 : w.setCell ⟨w0.heap.size + 8, 0, none⟩ (iN (s.cnt + 1)) = w1 at H1 ⊢
  -- the assignment
  have cm : w1.drew.cell? ⟨w0.heap.size + 2, 0, none⟩ = some (sl (w0.heap.size + 1) n) := H1.mB.cell (by omega)
  have cl : w1.drew.cell? ⟨w0.heap.size + 4, 0, none⟩ = some (sl (w0.heap.size + 3) n) := H1.lB.cell (by omega)
  have cc : w1.drew.cell? ⟨w0.heap.size + 8, 0, none⟩ = some (iN (s.cnt + 1)) := H1.cB.cell (by omega)
  have H2 := H1.setMet u (s.cnt + 1)
  have H3 := H2.setLow u (s.cnt + 1)
  have S0 : (fun w' : World => w'.cell? ⟨w0.heap.size + 2, 0, none⟩ = some (sl (w0.heap.size + 1) n) ∧ w'.cell? ⟨w0.heap.size + 4, 0, none⟩ = some (sl (w0.heap.size + 3) n) ∧ w'.cell? ⟨w0.heap.size + 8, 0, none⟩ = some (iN (s.cnt + 1))) w1.drew := ⟨cm, cl, cc⟩
  have S1 : (fun w' : World => w'.cell? ⟨w0.heap.size + 2, 0, none⟩ = some (sl (w0.heap.size + 1) n) ∧ w'.cell? ⟨w0.heap.size + 4, 0, none⟩ = some (sl (w0.heap.size + 3) n) ∧ w'.cell? ⟨w0.heap.size + 8, 0, none⟩ = some (iN (s.cnt + 1))) (w1.drew.setCell ⟨w0.heap.size + 1, u, none⟩ (iN (s.cnt + 1))) := ⟨H2.mB.cell (by omega), H2.lB.cell (by omega), H2.cB.cell (by omega)⟩
  have S2 : (fun w' : World => w'.cell? ⟨w0.heap.size + 2, 0, none⟩ = some (sl (w0.heap.size + 1) n) ∧ w'.cell? ⟨w0.heap.size + 4, 0, none⟩ = some (sl (w0.heap.size + 3) n) ∧ w'.cell? ⟨w0.heap.size + 8, 0, none⟩ = some (iN (s.cnt + 1))) ((w1.drew.setCell ⟨w0.heap.size + 1, u, none⟩ (iN (s.cnt + 1))).setCell ⟨w0.heap.size + 3, u, none⟩ (iN (s.cnt + 1))) := ⟨H3.mB.cell (by omega), H3.lB.cell (by omega), H3.cB.cell (by omega)⟩
  refine G.seq (D.begin (fun w' : World => w'.cell? ⟨w0.heap.size + 2, 0, none⟩ = some (sl (w0.heap.size + 1) n) ∧ w'.cell? ⟨w0.heap.size + 4, 0, none⟩ = some (sl (w0.heap.size + 3) n) ∧ w'.cell? ⟨w0.heap.size + 8, 0, none⟩ = some (iN (s.cnt + 1))) 10 rfl mixed ?_)
  refine D.tk 0 (some 10) (.load 29 (.tmp 2)) (sl (w0.heap.size + 1) n) rfl (by kernel_rfl) (by kernel_rfl) (by kernel_rfl) rfl (fun w' hS => (by simp only [upd_apply, Nat.reduceEqDiff, ↓reduceIte, Vc.put_some, ev_tmp, ev_const, Int.natCast_add, Int.natCast_one, Int.natCast_zero, rdF, mkO, h2, sc29, loadV_ptr, hS.1] <;> rfl)) S0 ?_
  refine D.tk 1 (some 11) (.move (.tmp 0)) (.int .i64 u) rfl (by kernel_rfl) (by kernel_rfl) (by kernel_rfl) rfl (fun w' hS => (by simp only [upd_apply, Nat.reduceEqDiff, ↓reduceIte, Vc.put_some, ev_tmp, ev_const, Int.natCast_add, Int.natCast_one, Int.natCast_zero, rdF, mkO, h0] <;> rfl)) S0 ?_
  refine D.tk 2 (some 12) (.load 29 (.tmp 3)) (sl (w0.heap.size + 3) n) rfl (by kernel_rfl) (by kernel_rfl) (by kernel_rfl) rfl (fun w' hS => (by simp only [upd_apply, Nat.reduceEqDiff, ↓reduceIte, Vc.put_some, ev_tmp, ev_const, Int.natCast_add, Int.natCast_one, Int.natCast_zero, rdF, mkO, h3, sc29, loadV_ptr, hS.2.1] <;> rfl)) S0 ?_
  refine D.tk 3 (some 13) (.move (.tmp 0)) (.int .i64 u) rfl (by kernel_rfl) (by kernel_rfl) (by kernel_rfl) rfl (fun w' hS => (by simp only [upd_apply, Nat.reduceEqDiff, ↓reduceIte, Vc.put_some, ev_tmp, ev_const, Int.natCast_add, Int.natCast_one, Int.natCast_zero, rdF, mkO, h0] <;> rfl)) S0 ?_
  refine D.tk 4 (some 14) (.load 3 (.tmp 1)) (iN (s.cnt + 1)) rfl (by kernel_rfl) (by kernel_rfl) (by kernel_rfl) rfl (fun w' hS => (by simp only [upd_apply, Nat.reduceEqDiff, ↓reduceIte, Vc.put_some, ev_tmp, ev_const, Int.natCast_add, Int.natCast_one, Int.natCast_zero, rdF, mkO, h1, sc3, loadV_ptr, hS.2.2] <;> rfl)) S0 ?_
  refine D.tk 5 (some 15) (.load 3 (.tmp 1)) (iN (s.cnt + 1)) rfl (by kernel_rfl) (by kernel_rfl) (by kernel_rfl) rfl (fun w' hS => (by simp only [upd_apply, Nat.reduceEqDiff, ↓reduceIte, Vc.put_some, ev_tmp, ev_const, Int.natCast_add, Int.natCast_one, Int.natCast_zero, rdF, mkO, h1, sc3, loadV_ptr, hS.2.2] <;> rfl)) S0 ?_
  refine D.tk 6 (some 16) (.indexAddr 29 (.tmp 10) (.tmp 11)) (.pointer (some ⟨w0.heap.size + 1, u, none⟩)) rfl (by kernel_rfl) (by kernel_rfl) (by kernel_rfl) rfl (fun w' hS => by simp (disch := omega) only [rdF, mkO, upd_apply, Nat.reduceEqDiff, ↓reduceIte, Vc.put_some, Vc.put_none, ev_tmp, sl, idx29, add_at, Int.toNat_natCast, Nat.zero_add]) S0 ?_
  refine D.st 7 3 (.tmp 16) (.tmp 14) ⟨w0.heap.size + 1, u, none⟩ (iN (s.cnt + 1)) (by kernel_rfl) rfl sc3 (by simp only [upd_apply, Nat.reduceEqDiff, ↓reduceIte, Vc.put_some, ev_tmp, ev_const, Int.natCast_add, Int.natCast_one, Int.natCast_zero] <;> rfl) (by simp only [upd_apply, Nat.reduceEqDiff, ↓reduceIte, Vc.put_some, ev_tmp, ev_const, Int.natCast_add, Int.natCast_one, Int.natCast_zero] <;> rfl) (by rw [H1.mA.cell hu]; rfl) (H1.mA.frozen _) rfl S1 ?_
  refine D.tk 8 (some 17) (.indexAddr 29 (.tmp 12) (.tmp 13)) (.pointer (some ⟨w0.heap.size + 3, u, none⟩)) rfl (by kernel_rfl) (by kernel_rfl) (by kernel_rfl) rfl (fun w' hS => by simp (disch := omega) only [rdF, mkO, upd_apply, Nat.reduceEqDiff, ↓reduceIte, Vc.put_some, Vc.put_none, ev_tmp, sl, idx29, add_at, Int.toNat_natCast, Nat.zero_add]) S1 ?_
  refine D.st 9 3 (.tmp 17) (.tmp 15) ⟨w0.heap.size + 3, u, none⟩ (iN (s.cnt + 1)) (by kernel_rfl) rfl sc3 (by simp only [upd_apply, Nat.reduceEqDiff, ↓reduceIte, Vc.put_some, ev_tmp, ev_const, Int.natCast_add, Int.natCast_one, Int.natCast_zero] <;> rfl) (by simp only [upd_apply, Nat.reduceEqDiff, ↓reduceIte, Vc.put_some, ev_tmp, ev_const, Int.natCast_add, Int.natCast_one, Int.natCast_zero] <;> rfl) (by rw [H2.lA.cell hu]; rfl) (H2.lA.frozen _) rfl S2 ?_
  refine D.done (by kernel_rfl) ?_
  clear S0 S1 S2 cm cl cc c0 H1 H2
  generalize (w1.drew.setCell ⟨w0.heap.size + 1, u, none⟩ (iN (s.cnt + 1))).setCell ⟨w0.heap.size + 3, u, none⟩ (iN (s.cnt + 1)) = w3 at H3 ⊢
  -- the stack
  have c4 : w3.cell? ⟨w0.heap.size + 7, 0, none⟩ = some vs := H3.sB.cell (by omega)
  refine G.sr rfl ?_
  simp (disch := omega) only [ln29, ln39, idx29, idx39, sc3, sc29, sc4, sc39, sc46, true_and, vc_move, vc_assign, vc_pick, vc_load, vc_store, vc_bin, vc_un, vc_idx, vc_fld, vc_nilc, vc_ext, vc_slice, vc_func, vc_box, vc_len, vc_min, vc_nil, vc_guard, gdO_yes, gdO_ft, gdO_tf, gdO_un, gslot_cons0, gslot_consS, Vc.put_some, Vc.put_none, ev_tmp, ev_const, ev_func, upd_apply, Nat.reduceEqDiff, ↓reduceIte, vO_some, loadV_ptr, addrV_ptr, nilV_ptr, pickV_bool, ext2_0, ext2_1, unV_not, minV_int, binX_int, binX_str, binV_eql, binV_neq, binV_lss, binV_leq, binV_gtr, binV_geq, binV_add, binV_sub, binV_mul, add_at, Int.toNat_natCast, Nat.zero_add, Nat.add_zero, List.map_cons, List.map_nil, List.toList_toArray, Option.map_some, Option.map_none, true_and, Bool.false_eq_true, h4, h0, c4]
  refine vc_app1 em29 H3.sA el29 (by simp only [upd_apply, Nat.reduceEqDiff, ↓reduceIte, Vc.put_some, ev_tmp, ev_const, Int.natCast_add, Int.natCast_one, Int.natCast_zero] <;> rfl) rfl (by simp only [upd_apply, Nat.reduceEqDiff, ↓reduceIte, Vc.put_some, ev_tmp, ev_const, Int.natCast_add, Int.natCast_one, Int.natCast_zero] <;> rfl) (by simp only; omega) (by simp only; omega) (fun v' w4 g' ho hg4 hg' hne => ?_)
  simp (disch := omega) only [ln29, ln39, idx29, idx39, sc3, sc29, sc4, sc39, sc46, true_and, vc_move, vc_assign, vc_pick, vc_load, vc_store, vc_bin, vc_un, vc_idx, vc_fld, vc_nilc, vc_ext, vc_slice, vc_func, vc_box, vc_len, vc_min, vc_nil, vc_guard, gdO_yes, gdO_ft, gdO_tf, gdO_un, gslot_cons0, gslot_consS, Vc.put_some, Vc.put_none, ev_tmp, ev_const, ev_func, upd_apply, Nat.reduceEqDiff, ↓reduceIte, vO_some, loadV_ptr, addrV_ptr, nilV_ptr, pickV_bool, ext2_0, ext2_1, unV_not, minV_int, binX_int, binX_str, binV_eql, binV_neq, binV_lss, binV_leq, binV_gtr, binV_geq, binV_add, binV_sub, binV_mul, add_at, Int.toNat_natCast, Nat.zero_add, Nat.add_zero, List.map_cons, List.map_nil, List.toList_toArray, Option.map_some, Option.map_none, true_and, Bool.false_eq_true, h4]
  have b4 : w4.rowIs (w0.heap.size + 7) 29 1 (fun _ => vs) := rowIs_grown H3.sB hg4 (fun e => by have := H3.slo _ e.symm; omega)
  rw [stO_ok (by rw [b4.cell (by omega)]; rfl) (b4.frozen _) (own_atom ho)]
  simp (disch := omega) only [ln29, ln39, idx29, idx39, sc3, sc29, sc4, sc39, sc46, true_and, vc_move, vc_assign, vc_pick, vc_load, vc_store, vc_bin, vc_un, vc_idx, vc_fld, vc_nilc, vc_ext, vc_slice, vc_func, vc_box, vc_len, vc_min, vc_nil, vc_guard, gdO_yes, gdO_ft, gdO_tf, gdO_un, gslot_cons0, gslot_consS, Vc.put_some, Vc.put_none, ev_tmp, ev_const, ev_func, upd_apply, Nat.reduceEqDiff, ↓reduceIte, vO_some, loadV_ptr, addrV_ptr, nilV_ptr, pickV_bool, ext2_0, ext2_1, unV_not, minV_int, binX_int, binX_str, binV_eql, binV_neq, binV_lss, binV_leq, binV_gtr, binV_geq, binV_add, binV_sub, binV_mul, add_at, Int.toNat_natCast, Nat.zero_add, Nat.add_zero, List.map_cons, List.map_nil, List.toList_toArray, Option.map_some, Option.map_none, true_and, Bool.false_eq_true]
  have H4 := H3.setSt (f := fset s.st s.ns u) hg4 (ho.congr (fun i hi => by
    simp only at hi
    simp only [fset]
    by_cases e : i = s.ns
    · rw [if_neg (by omega), if_pos e]; rfl
    · rw [if_pos (by omega), if_neg e])) hg'
  generalize w4.setCell ⟨w0.heap.size + 7, 0, none⟩ v' = w5 at H4 ⊢
  clear b4 hg4 ho hg' hne c4
  -- open
  have c5 : w5.cell? ⟨w0.heap.size + 6, 0, none⟩ = some (.slice (some ⟨w0.heap.size + 5, 0, none⟩) n n) := H4.oB.cell (by omega)
  refine G.sr rfl ?_
  simp (disch := omega) only [ln29, ln39, idx29, idx39, sc3, sc29, sc4, sc39, sc46, true_and, vc_move, vc_assign, vc_pick, vc_load, vc_store, vc_bin, vc_un, vc_idx, vc_fld, vc_nilc, vc_ext, vc_slice, vc_func, vc_box, vc_len, vc_min, vc_nil, vc_guard, gdO_yes, gdO_ft, gdO_tf, gdO_un, gslot_cons0, gslot_consS, Vc.put_some, Vc.put_none, ev_tmp, ev_const, ev_func, upd_apply, Nat.reduceEqDiff, ↓reduceIte, vO_some, loadV_ptr, addrV_ptr, nilV_ptr, pickV_bool, ext2_0, ext2_1, unV_not, minV_int, binX_int, binX_str, binV_eql, binV_neq, binV_lss, binV_leq, binV_gtr, binV_geq, binV_add, binV_sub, binV_mul, add_at, Int.toNat_natCast, Nat.zero_add, Nat.add_zero, List.map_cons, List.map_nil, List.toList_toArray, Option.map_some, Option.map_none, true_and, Bool.false_eq_true, h5, h0, c5]
  rw [stO_ok (by rw [H4.oA.cell hu]; rfl) (H4.oA.frozen _) rfl]
  simp (disch := omega) only [ln29, ln39, idx29, idx39, sc3, sc29, sc4, sc39, sc46, true_and, vc_move, vc_assign, vc_pick, vc_load, vc_store, vc_bin, vc_un, vc_idx, vc_fld, vc_nilc, vc_ext, vc_slice, vc_func, vc_box, vc_len, vc_min, vc_nil, vc_guard, gdO_yes, gdO_ft, gdO_tf, gdO_un, gslot_cons0, gslot_consS, Vc.put_some, Vc.put_none, ev_tmp, ev_const, ev_func, upd_apply, Nat.reduceEqDiff, ↓reduceIte, vO_some, loadV_ptr, addrV_ptr, nilV_ptr, pickV_bool, ext2_0, ext2_1, unV_not, minV_int, binX_int, binX_str, binV_eql, binV_neq, binV_lss, binV_leq, binV_gtr, binV_geq, binV_add, binV_sub, binV_mul, add_at, Int.toNat_natCast, Nat.zero_add, Nat.add_zero, List.map_cons, List.map_nil, List.toList_toArray, Option.map_some, Option.map_none, true_and, Bool.false_eq_true]
  have H5 := H4.setOp u true
  generalize w5.setCell ⟨w0.heap.size + 5, u, none⟩ (.bool true) = w6 at H5 ⊢
  -- the walk
  have c6 : w6.cell? ⟨w0.heap.size + 9, 0, none⟩ = some vk := H5.kB.cell (by omega)
  refine G.rgAt 3 rfl rfl rfl ?_
  simp (disch := omega) only [ln29, ln39, idx29, idx39, sc3, sc29, sc4, sc39, sc46, true_and, vc_move, vc_assign, vc_pick, vc_load, vc_store, vc_bin, vc_un, vc_idx, vc_fld, vc_nilc, vc_ext, vc_slice, vc_func, vc_box, vc_len, vc_min, vc_nil, vc_guard, gdO_yes, gdO_ft, gdO_tf, gdO_un, gslot_cons0, gslot_consS, Vc.put_some, Vc.put_none, ev_tmp, ev_const, ev_func, upd_apply, Nat.reduceEqDiff, ↓reduceIte, vO_some, loadV_ptr, addrV_ptr, nilV_ptr, pickV_bool, ext2_0, ext2_1, unV_not, minV_int, binX_int, binX_str, binV_eql, binV_neq, binV_lss, binV_leq, binV_gtr, binV_geq, binV_add, binV_sub, binV_mul, add_at, Int.toNat_natCast, Nat.zero_add, Nat.add_zero, List.map_cons, List.map_nil, List.toList_toArray, Option.map_some, Option.map_none, true_and, Bool.false_eq_true, h6, h0, c6, List.take_succ_cons, List.take_zero]
  refine vc_build (v := .agg #[.int .i64 u, .int .i64 0]) ?_ ?_
  · simp [ev, upd_apply, h0]
    exact build48 u _
  simp (disch := omega) only [ln29, ln39, idx29, idx39, sc3, sc29, sc4, sc39, sc46, true_and, vc_move, vc_assign, vc_pick, vc_load, vc_store, vc_bin, vc_un, vc_idx, vc_fld, vc_nilc, vc_ext, vc_slice, vc_func, vc_box, vc_len, vc_min, vc_nil, vc_guard, gdO_yes, gdO_ft, gdO_tf, gdO_un, gslot_cons0, gslot_consS, Vc.put_some, Vc.put_none, ev_tmp, ev_const, ev_func, upd_apply, Nat.reduceEqDiff, ↓reduceIte, vO_some, loadV_ptr, addrV_ptr, nilV_ptr, pickV_bool, ext2_0, ext2_1, unV_not, minV_int, binX_int, binX_str, binV_eql, binV_neq, binV_lss, binV_leq, binV_gtr, binV_geq, binV_add, binV_sub, binV_mul, add_at, Int.toNat_natCast, Nat.zero_add, Nat.add_zero, List.map_cons, List.map_nil, List.toList_toArray, Option.map_some, Option.map_none, true_and, Bool.false_eq_true]
  refine opW_lit2 em46 (u := .int .i64 u) (v := .int .i64 0) (by simp only [upd_apply, Nat.reduceEqDiff, ↓reduceIte, Vc.put_some, ev_tmp, ev_const, Int.natCast_add, Int.natCast_one, Int.natCast_zero] <;> rfl) rfl ?_
  simp (disch := omega) only [ln29, ln39, idx29, idx39, sc3, sc29, sc4, sc39, sc46, true_and, vc_move, vc_assign, vc_pick, vc_load, vc_store, vc_bin, vc_un, vc_idx, vc_fld, vc_nilc, vc_ext, vc_slice, vc_func, vc_box, vc_len, vc_min, vc_nil, vc_guard, gdO_yes, gdO_ft, gdO_tf, gdO_un, gslot_cons0, gslot_consS, Vc.put_some, Vc.put_none, ev_tmp, ev_const, ev_func, upd_apply, Nat.reduceEqDiff, ↓reduceIte, vO_some, loadV_ptr, addrV_ptr, nilV_ptr, pickV_bool, ext2_0, ext2_1, unV_not, minV_int, binX_int, binX_str, binV_eql, binV_neq, binV_lss, binV_leq, binV_gtr, binV_geq, binV_add, binV_sub, binV_mul, add_at, Int.toNat_natCast, Nat.zero_add, Nat.add_zero, List.map_cons, List.map_nil, List.toList_toArray, Option.map_some, Option.map_none, true_and, Bool.false_eq_true, List.drop_succ_cons, List.drop_zero]
  have hg7 := grown_alloc w6 (.cells #[.int .i64 u, .int .i64 0] 48) none
  have H6 := H5.grow hg7
  have cn : ∀ (j : Nat) (x : Value), [Value.int .i64 u, .int .i64 0][j]? = some x → (w6.alloc (.cells #[.int .i64 u, .int .i64 0] 48)).cell? ((⟨w6.heap.size, 0, none⟩ : Addr).add j) = some x := fun j x hj => by
    match j, hj with
    | 0, hj => simp at hj; subst hj; simp [add_at]
    | 1, hj => simp at hj; subst hj; simp [add_at]
  generalize w6.alloc (.cells #[.int .i64 u, .int .i64 0] 48) = w7 at H6 cn ⊢
  refine vc_append em46 H6.kA ⟨w6.heap.size, 0, none⟩ 1 1 [.int .i64 u, .int .i64 0] (by simp only [upd_apply, Nat.reduceEqDiff, ↓reduceIte, Vc.put_some, ev_tmp, ev_const, Int.natCast_add, Int.natCast_one, Int.natCast_zero] <;> rfl) (by simp only [upd_apply, Nat.reduceEqDiff, ↓reduceIte, Vc.put_some, ev_tmp, ev_const, Int.natCast_add, Int.natCast_one, Int.natCast_zero] <;> rfl) rfl cn (by simp [atomB]) (by omega) (by simp only; omega) (by simp only; omega) (fun v'' w8 g'' ho hg8 hgor hne => ?_)
  simp (disch := omega) only [ln29, ln39, idx29, idx39, sc3, sc29, sc4, sc39, sc46, true_and, vc_move, vc_assign, vc_pick, vc_load, vc_store, vc_bin, vc_un, vc_idx, vc_fld, vc_nilc, vc_ext, vc_slice, vc_func, vc_box, vc_len, vc_min, vc_nil, vc_guard, gdO_yes, gdO_ft, gdO_tf, gdO_un, gslot_cons0, gslot_consS, Vc.put_some, Vc.put_none, ev_tmp, ev_const, ev_func, upd_apply, Nat.reduceEqDiff, ↓reduceIte, vO_some, loadV_ptr, addrV_ptr, nilV_ptr, pickV_bool, ext2_0, ext2_1, unV_not, minV_int, binX_int, binX_str, binV_eql, binV_neq, binV_lss, binV_leq, binV_gtr, binV_geq, binV_add, binV_sub, binV_mul, add_at, Int.toNat_natCast, Nat.zero_add, Nat.add_zero, List.map_cons, List.map_nil, List.toList_toArray, Option.map_some, Option.map_none, true_and, Bool.false_eq_true, h6]
  have b8 : w8.rowIs (w0.heap.size + 9) 46 1 (fun _ => vk) := rowIs_grown H6.kB hg8 (fun e => by have := H6.klo _ e.symm; omega)
  rw [stO_ok (by rw [b8.cell (by omega)]; rfl) (b8.frozen _) (own_atom ho)]
  simp (disch := omega) only [ln29, ln39, idx29, idx39, sc3, sc29, sc4, sc39, sc46, true_and, vc_move, vc_assign, vc_pick, vc_load, vc_store, vc_bin, vc_un, vc_idx, vc_fld, vc_nilc, vc_ext, vc_slice, vc_func, vc_box, vc_len, vc_min, vc_nil, vc_guard, gdO_yes, gdO_ft, gdO_tf, gdO_un, gslot_cons0, gslot_consS, Vc.put_some, Vc.put_none, ev_tmp, ev_const, ev_func, upd_apply, Nat.reduceEqDiff, ↓reduceIte, vO_some, loadV_ptr, addrV_ptr, nilV_ptr, pickV_bool, ext2_0, ext2_1, unV_not, minV_int, binX_int, binX_str, binV_eql, binV_neq, binV_lss, binV_leq, binV_gtr, binV_geq, binV_add, binV_sub, binV_mul, add_at, Int.toNat_natCast, Nat.zero_add, Nat.add_zero, List.map_cons, List.map_nil, List.toList_toArray, Option.map_some, Option.map_none, true_and, Bool.false_eq_true]
  have H7 := H6.setK (f := fset s.kt s.nk u) (x := fset s.kx s.nk 0) hg8 (ho.congr (fun i hi => by
    simp only at hi
    simp only [KF, fset]
    by_cases e : i < s.nk * 2
    · have e2 : i / 2 ≠ s.nk := by omega
      simp only [e, e2, if_true, if_false]
    · by_cases e3 : i = s.nk * 2
      · have e4 : i / 2 = s.nk := by omega
        have e5 : i % 2 = 0 := by omega
        simp [e, e4, e5, iN, e3]
      · have e4 : i / 2 = s.nk := by omega
        have e5 : ¬ i % 2 = 0 := by omega
        have e6 : i - s.nk * 2 = 1 := by omega
        simp [e, e4, e5, e6, iN])) (fun b e => by rcases hgor with g | g; (· left; rw [← g]; exact e); (· right; rw [g] at e; cases e; omega))
  exact G.end0 Try.func24 rfl ⟨rfl, _, _, _, _, H7⟩
end Go.Proofs.Qxb6603705a
