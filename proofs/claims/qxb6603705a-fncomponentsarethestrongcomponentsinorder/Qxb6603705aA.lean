import Derived.Test.Qxb6603705aRows
import Derived.Test.Qxb6603705aMem
set_option linter.unusedVariables false
set_option linter.unusedSimpArgs false
namespace Go.Proofs.Qxb6603705a
open Go Go.Vc Go.RowKit

def Rd (w : World) (v : Value) (n : Nat) (X : Nat → Value) : Prop := ∃ a cap, v = .slice a n cap ∧ n ≤ cap ∧ (0 < n → ∃ b off, a = some ⟨b, off, none⟩ ∧ ∀ i, i < n → w.cell? ⟨b, off + i, none⟩ = some (X i))
theorem el29 : elemB Try.prog 29 = some 3 := by kernel_rfl
theorem sc3 : scalarB Try.prog 3 = true := by kernel_rfl
theorem ln29 (a : Option Addr) (len cap : Nat) : lenV Try.prog 29 (.slice a len cap) = some (.int .i64 len) := lenV_slice Try.underlying29 a len cap
theorem idx29 (a : Addr) (len cap : Nat) (k : IntKind) (n : Int) (h1 : 0 ≤ n) (h2 : n < len) : idxV Try.prog 29 (.slice (some a) len cap) (.int k n) = some (.pointer (some (a.add n.toNat))) := idxV_in el29 a len cap k n h1 h2

set_option maxHeartbeats 400000 in
theorem contains_any {w : World} {v : Value} {n : Nat} {X : Nat → Int} (x : Int) (hrd : Rd w v n (fun i => .int .i64 (X i))) (hn : n ≤ 4611686018427387904) :
    Calls Try.prog 20 #[v, .int .i64 x] w (fun e w' => ∃ b : Bool, e = .returned (.bool b) ∧ (b = true ↔ ∃ i, i < n ∧ X i = x) ∧ w' = w) := by
  obtain ⟨a, cap, rfl, hcap, hc⟩ := hrd
  refine calls Try.func20 rfl Try.ntmps20 (by simp) (fun ρ hρ => ?_)
  have h0 : ρ 0 = .slice a n cap := hρ 0 (by simp)
  have h1 : ρ 1 = .int .i64 x := hρ 1 (by simp)
  refine G.sr rfl ?_
  simp (disch := omega) only [ln29, idx29, sc3, true_and, vc_move, vc_assign, vc_pick, vc_load, vc_store, vc_bin, vc_un, vc_idx, vc_fld, vc_nilc, vc_ext, vc_slice, vc_func, vc_box, vc_len, vc_min, vc_nil, vc_guard, gdO_yes, gdO_ft, gdO_tf, gslot_cons0, gslot_consS, Vc.put_some, Vc.put_none, ev_tmp, ev_const, ev_func, upd_apply, Nat.reduceEqDiff, ↓reduceIte, vO_some, loadV_ptr, addrV_ptr, nilV_ptr, pickV_bool, unV_not, minV_int, binX_int, binX_str, binV_eql, binV_neq, binV_lss, binV_leq, binV_gtr, binV_geq, binV_add, binV_sub, binV_mul, add_at, Int.toNat_natCast, Nat.zero_add, Nat.add_zero, List.map_cons, List.map_nil, List.toList_toArray, Option.map_some, Option.map_none, true_and, Bool.false_eq_true]
  refine G.seq ?_
  refine G.sr rfl ?_
  simp (disch := omega) only [ln29, idx29, sc3, true_and, vc_move, vc_assign, vc_pick, vc_load, vc_store, vc_bin, vc_un, vc_idx, vc_fld, vc_nilc, vc_ext, vc_slice, vc_func, vc_box, vc_len, vc_min, vc_nil, vc_guard, gdO_yes, gdO_ft, gdO_tf, gslot_cons0, gslot_consS, Vc.put_some, Vc.put_none, ev_tmp, ev_const, ev_func, upd_apply, Nat.reduceEqDiff, ↓reduceIte, vO_some, loadV_ptr, addrV_ptr, nilV_ptr, pickV_bool, unV_not, minV_int, binX_int, binX_str, binV_eql, binV_neq, binV_lss, binV_leq, binV_gtr, binV_geq, binV_add, binV_sub, binV_mul, add_at, Int.toNat_natCast, Nat.zero_add, Nat.add_zero, List.map_cons, List.map_nil, List.toList_toArray, Option.map_some, Option.map_none, true_and, Bool.false_eq_true]
  refine G.forLoop (fun m ρ' w' => ∃ k : Nat, m = n - k ∧ k ≤ n ∧ w' = w ∧ ρ' 0 = .slice a n cap ∧ ρ' 1 = .int .i64 x ∧ ρ' 5 = .int .i64 k ∧ ∀ i, i < k → X i ≠ x) (fun ρ' w' => w' = w ∧ ∀ i, i < n → X i ≠ x) n ?_ ?_ ?_
  · exact ⟨0, by omega, by omega, rfl, (by simp only [upd_apply, Nat.reduceEqDiff, ↓reduceIte, Vc.put_some, ev_tmp, ev_const, Int.natCast_add, Int.natCast_one, Int.natCast_zero, h0] <;> rfl), (by simp only [upd_apply, Nat.reduceEqDiff, ↓reduceIte, Vc.put_some, ev_tmp, ev_const, Int.natCast_add, Int.natCast_one, Int.natCast_zero, h1] <;> rfl), (by simp only [upd_apply, Nat.reduceEqDiff, ↓reduceIte, Vc.put_some, ev_tmp, ev_const, Int.natCast_add, Int.natCast_one, Int.natCast_zero] <;> rfl) , by omega⟩
  · rintro m ρ' w' ⟨k, rfl, hk, rfl, r0, r1, r5, hX⟩ kL kX hround hx hpost
    refine G.seq (G.sr rfl ?_)
    simp (disch := omega) only [ln29, idx29, sc3, true_and, vc_move, vc_assign, vc_pick, vc_load, vc_store, vc_bin, vc_un, vc_idx, vc_fld, vc_nilc, vc_ext, vc_slice, vc_func, vc_box, vc_len, vc_min, vc_nil, vc_guard, gdO_yes, gdO_ft, gdO_tf, gslot_cons0, gslot_consS, Vc.put_some, Vc.put_none, ev_tmp, ev_const, ev_func, upd_apply, Nat.reduceEqDiff, ↓reduceIte, vO_some, loadV_ptr, addrV_ptr, nilV_ptr, pickV_bool, unV_not, minV_int, binX_int, binX_str, binV_eql, binV_neq, binV_lss, binV_leq, binV_gtr, binV_geq, binV_add, binV_sub, binV_mul, add_at, Int.toNat_natCast, Nat.zero_add, Nat.add_zero, List.map_cons, List.map_nil, List.toList_toArray, Option.map_some, Option.map_none, true_and, Bool.false_eq_true, r0, r1, r5]
    refine G.condD (p := (k : Int) < n) (by simp only [upd_apply, Nat.reduceEqDiff, ↓reduceIte, Vc.put_some, ev_tmp, ev_const, Int.natCast_add, Int.natCast_one, Int.natCast_zero] <;> rfl) (fun hlt => ?_) (fun hge => ?_)
    · refine G.skip (G.seq (G.block (G.sr rfl ?_)))
      obtain ⟨b, off, rfl, hcell⟩ := hc (by omega)
      simp (disch := omega) only [ln29, idx29, sc3, true_and, vc_move, vc_assign, vc_pick, vc_load, vc_store, vc_bin, vc_un, vc_idx, vc_fld, vc_nilc, vc_ext, vc_slice, vc_func, vc_box, vc_len, vc_min, vc_nil, vc_guard, gdO_yes, gdO_ft, gdO_tf, gslot_cons0, gslot_consS, Vc.put_some, Vc.put_none, ev_tmp, ev_const, ev_func, upd_apply, Nat.reduceEqDiff, ↓reduceIte, vO_some, loadV_ptr, addrV_ptr, nilV_ptr, pickV_bool, unV_not, minV_int, binX_int, binX_str, binV_eql, binV_neq, binV_lss, binV_leq, binV_gtr, binV_geq, binV_add, binV_sub, binV_mul, add_at, Int.toNat_natCast, Nat.zero_add, Nat.add_zero, List.map_cons, List.map_nil, List.toList_toArray, Option.map_some, Option.map_none, true_and, Bool.false_eq_true, r0, r1, r5, hcell]
      refine G.condEq (by simp only [upd_apply, Nat.reduceEqDiff, ↓reduceIte, Vc.put_some, ev_tmp, ev_const, Int.natCast_add, Int.natCast_one, Int.natCast_zero] <;> rfl) (fun he => ?_) (fun he => ?_)
      · refine G.sr rfl ?_
        simp (disch := omega) only [ln29, idx29, sc3, true_and, vc_move, vc_assign, vc_pick, vc_load, vc_store, vc_bin, vc_un, vc_idx, vc_fld, vc_nilc, vc_ext, vc_slice, vc_func, vc_box, vc_len, vc_min, vc_nil, vc_guard, gdO_yes, gdO_ft, gdO_tf, gslot_cons0, gslot_consS, Vc.put_some, Vc.put_none, ev_tmp, ev_const, ev_func, upd_apply, Nat.reduceEqDiff, ↓reduceIte, vO_some, loadV_ptr, addrV_ptr, nilV_ptr, pickV_bool, unV_not, minV_int, binX_int, binX_str, binV_eql, binV_neq, binV_lss, binV_leq, binV_gtr, binV_geq, binV_add, binV_sub, binV_mul, add_at, Int.toNat_natCast, Nat.zero_add, Nat.add_zero, List.map_cons, List.map_nil, List.toList_toArray, Option.map_some, Option.map_none, true_and, Bool.false_eq_true]
        exact G.ret1 Try.func20 rfl (by simp only [upd_apply, Nat.reduceEqDiff, ↓reduceIte, Vc.put_some, ev_tmp, ev_const, Int.natCast_add, Int.natCast_one, Int.natCast_zero] <;> rfl) ⟨true, rfl, ⟨fun _ => ⟨k, by omega, he⟩, fun _ => rfl⟩, rfl⟩
      · refine G.skip (G.inBlock (G.rg rfl ?_))
        simp (disch := omega) only [ln29, idx29, sc3, true_and, vc_move, vc_assign, vc_pick, vc_load, vc_store, vc_bin, vc_un, vc_idx, vc_fld, vc_nilc, vc_ext, vc_slice, vc_func, vc_box, vc_len, vc_min, vc_nil, vc_guard, gdO_yes, gdO_ft, gdO_tf, gslot_cons0, gslot_consS, Vc.put_some, Vc.put_none, ev_tmp, ev_const, ev_func, upd_apply, Nat.reduceEqDiff, ↓reduceIte, vO_some, loadV_ptr, addrV_ptr, nilV_ptr, pickV_bool, unV_not, minV_int, binX_int, binX_str, binV_eql, binV_neq, binV_lss, binV_leq, binV_gtr, binV_geq, binV_add, binV_sub, binV_mul, add_at, Int.toNat_natCast, Nat.zero_add, Nat.add_zero, List.map_cons, List.map_nil, List.toList_toArray, Option.map_some, Option.map_none, true_and, Bool.false_eq_true, r5]
        refine hround (n - (k + 1)) _ _ (by omega) ⟨k + 1, rfl, by omega, rfl, (by simp only [upd_apply, Nat.reduceEqDiff, ↓reduceIte, Vc.put_some, ev_tmp, ev_const, Int.natCast_add, Int.natCast_one, Int.natCast_zero, r0] <;> rfl), (by simp only [upd_apply, Nat.reduceEqDiff, ↓reduceIte, Vc.put_some, ev_tmp, ev_const, Int.natCast_add, Int.natCast_one, Int.natCast_zero, r1] <;> rfl), (by simp only [upd_apply, Nat.reduceEqDiff, ↓reduceIte, Vc.put_some, ev_tmp, ev_const, Int.natCast_add, Int.natCast_one, Int.natCast_zero] <;> rfl), fun i hi => ?_⟩
        by_cases e : i = k
        · subst e; exact he
        · exact hX i (by omega)
    · refine G.exit hx (hpost _ _ ⟨rfl, fun i hi => hX i (by omega)⟩)
  · rintro ρ' w' ⟨rfl, hX⟩
    refine G.sr rfl ?_
    simp (disch := omega) only [ln29, idx29, sc3, true_and, vc_move, vc_assign, vc_pick, vc_load, vc_store, vc_bin, vc_un, vc_idx, vc_fld, vc_nilc, vc_ext, vc_slice, vc_func, vc_box, vc_len, vc_min, vc_nil, vc_guard, gdO_yes, gdO_ft, gdO_tf, gslot_cons0, gslot_consS, Vc.put_some, Vc.put_none, ev_tmp, ev_const, ev_func, upd_apply, Nat.reduceEqDiff, ↓reduceIte, vO_some, loadV_ptr, addrV_ptr, nilV_ptr, pickV_bool, unV_not, minV_int, binX_int, binX_str, binV_eql, binV_neq, binV_lss, binV_leq, binV_gtr, binV_geq, binV_add, binV_sub, binV_mul, add_at, Int.toNat_natCast, Nat.zero_add, Nat.add_zero, List.map_cons, List.map_nil, List.toList_toArray, Option.map_some, Option.map_none, true_and, Bool.false_eq_true]
    exact G.ret1 Try.func20 rfl (by simp only [upd_apply, Nat.reduceEqDiff, ↓reduceIte, Vc.put_some, ev_tmp, ev_const, Int.natCast_add, Int.natCast_one, Int.natCast_zero] <;> rfl) ⟨false, rfl, by simp; exact hX, rfl⟩
end Go.Proofs.Qxb6603705a
