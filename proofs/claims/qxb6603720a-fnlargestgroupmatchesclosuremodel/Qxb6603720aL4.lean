import Derived.Test.Qxb6603720aGf
set_option linter.unusedVariables false
set_option linter.unusedSimpArgs false
namespace Go.Proofs.Qxb6603720a
open Go Go.Vc Go.RowKit Go.Gr

theorem vsl3 {ds : List (Option Nat)} {w : World} {K : Env → Prop} {os : List Oper} {ρ : Env} {d : Option Nat} {ty : TypeId} {pos : String} {aft : Array Edge} (a : Operand) : vcS Try.prog ds w K (⟨d, .load 3 a, ty, pos, aft, none⟩ :: os) ρ = sO Try.prog ds w K os ρ d (loadV w (ev ρ a)) := vs_load 3 a sc3
theorem Rd.keep {w w' : World} {v : Value} {n : Nat} {X : Nat → Value} (h : Rd w v n X) (hk : ∀ (a : Addr) u, w.cell? a = some u → w'.cell? a = some u) : Rd w' v n X := by
  obtain ⟨a, c, rfl, hc, hh⟩ := h
  refine ⟨a, c, rfl, hc, fun hp => ?_⟩
  obtain ⟨b, o, rfl, hcell⟩ := hh hp
  exact ⟨b, o, rfl, fun i hi => hk _ _ (hcell i hi)⟩
theorem Mat.keep {w w' : World} {v : Value} {n : Nat} {L : Nat → Nat} {C : Nat → Nat → Int} {V : Nat → Value} (h : Mat w v n L C V) (hk : ∀ (a : Addr) u, w.cell? a = some u → w'.cell? a = some u) : Mat w' v n L C V :=
  ⟨h.rd.keep hk, fun r hr => (h.row r hr).keep hk⟩

/-- ZZLargestGroup, whatever the number of hosts -/
theorem zzLargest_any {w : World} {v : Value} {n : Nat} {L : Nat → Nat} {C : Nat → Nat → Int} {V : Nat → Value} (hM : Mat w v n L C V) (hn : n ≤ 131072) (hL : ∀ r, r < n → L r ≤ 1048576) (hdom : ∀ u h, u < n → h < L u → C u h ≠ -1 → h < n) :
    Calls Try.prog 10 #[v] w (fun e w' => ∃ (l : List Nat) (v' : Value), e = .returned v' ∧ Best (Em n L C) n l ∧ Rd w' v' l.length (fun i => iN (l.getD i 0)) ∧ (n = 0 → v' = .slice none 0 0) ∧ Below w.heap.size w w') := by
  have h25 : Calls Try.prog 25 #[v] w (fun e w' => ∃ (l : List Nat) (v' : Value), e = .returned v' ∧ Best (Em n L C) n l ∧ Rd w' v' l.length (fun i => iN (l.getD i 0)) ∧ (n = 0 → v' = .slice none 0 0) ∧ Below w.heap.size w w') := by
    by_cases hn0 : n = 0
    · subst hn0
      obtain ⟨a, c, rfl, _, _⟩ := hM.rd
      refine largest_zero.mono (fun e w' => ?_)
      rintro ⟨rfl, hb⟩
      exact ⟨[], _, rfl, rfl, ⟨none, 0, rfl, Nat.le_refl _, fun h => absurd h (by simp)⟩, fun _ => rfl, hb⟩
    · refine (largest_any hM (by omega) hn hL hdom).mono (fun e w' => ?_)
      rintro ⟨l, b, off, cap, rfl, hbest, hcap, hcell, hlo, hb⟩
      exact ⟨l, _, rfl, hbest, ⟨_, cap, rfl, hcap, fun _ => ⟨b, off, rfl, hcell⟩⟩, fun h => absurd h hn0, hb⟩
  refine calls Try.func10 rfl Try.ntmps10 (by simp) (fun ρ hρ => ?_)
  have h0 : ρ 0 = v := hρ 0 (by simp)
  clear hρ
  refine G.sr rfl ?_
  simp (disch := omega) only [ln22, ln24, ln25, ln44, idx22, idx24, idx25, idx44, sc3, sc4, sc21, sc24, sc25, sl25hi, vsl3, true_and, vc_move, vc_assign, vc_pick, vc_load, vc_store, vc_bin, vc_un, vc_idx, vc_fld, vc_nilc, vc_ext, vc_slice, vc_func, vc_box, vc_len, vc_min, vc_nil, vc_guard, gdO_yes, gdO_ft, gdO_tf, gdO_un, gslot_cons0, gslot_consS, Vc.put_some, Vc.put_none, ev_tmp, ev_const, ev_func, upd_apply, Nat.reduceEqDiff, ↓reduceIte, vO_some, loadV_ptr, addrV_ptr, nilV_ptr, pickV_bool, ext2_0, ext2_1, unV_not, minV_int, binX_int, binX_str, binV_eql, binV_neq, binV_lss, binV_leq, binV_gtr, binV_geq, binV_add, binV_sub, binV_mul, add_at, Int.toNat_natCast, Nat.zero_add, Nat.add_zero, List.map_cons, List.map_nil, List.toList_toArray, Option.map_some, Option.map_none, true_and, Bool.false_eq_true]
  refine G.sr rfl ?_
  simp (disch := omega) only [ln22, ln24, ln25, ln44, idx22, idx24, idx25, idx44, sc3, sc4, sc21, sc24, sc25, sl25hi, vsl3, true_and, vc_move, vc_assign, vc_pick, vc_load, vc_store, vc_bin, vc_un, vc_idx, vc_fld, vc_nilc, vc_ext, vc_slice, vc_func, vc_box, vc_len, vc_min, vc_nil, vc_guard, gdO_yes, gdO_ft, gdO_tf, gdO_un, gslot_cons0, gslot_consS, Vc.put_some, Vc.put_none, ev_tmp, ev_const, ev_func, upd_apply, Nat.reduceEqDiff, ↓reduceIte, vO_some, loadV_ptr, addrV_ptr, nilV_ptr, pickV_bool, ext2_0, ext2_1, unV_not, minV_int, binX_int, binX_str, binV_eql, binV_neq, binV_lss, binV_leq, binV_gtr, binV_geq, binV_add, binV_sub, binV_mul, add_at, Int.toNat_natCast, Nat.zero_add, Nat.add_zero, List.map_cons, List.map_nil, List.toList_toArray, Option.map_some, Option.map_none, true_and, Bool.false_eq_true, h0]
  refine vc_call hb25 rfl (vs := #[v]) (by simp [ev, upd_apply]) h25 ?_
  rintro e w' ⟨l, v', rfl, hR⟩
  refine ⟨v', rfl, ?_⟩
  simp (disch := omega) only [ln22, ln24, ln25, ln44, idx22, idx24, idx25, idx44, sc3, sc4, sc21, sc24, sc25, sl25hi, vsl3, true_and, vc_move, vc_assign, vc_pick, vc_load, vc_store, vc_bin, vc_un, vc_idx, vc_fld, vc_nilc, vc_ext, vc_slice, vc_func, vc_box, vc_len, vc_min, vc_nil, vc_guard, gdO_yes, gdO_ft, gdO_tf, gdO_un, gslot_cons0, gslot_consS, Vc.put_some, Vc.put_none, ev_tmp, ev_const, ev_func, upd_apply, Nat.reduceEqDiff, ↓reduceIte, vO_some, loadV_ptr, addrV_ptr, nilV_ptr, pickV_bool, ext2_0, ext2_1, unV_not, minV_int, binX_int, binX_str, binV_eql, binV_neq, binV_lss, binV_leq, binV_gtr, binV_geq, binV_add, binV_sub, binV_mul, add_at, Int.toNat_natCast, Nat.zero_add, Nat.add_zero, List.map_cons, List.map_nil, List.toList_toArray, Option.map_some, Option.map_none, true_and, Bool.false_eq_true]
  exact G.ret1 Try.func10 rfl (by simp only [upd_apply, Nat.reduceEqDiff, ↓reduceIte, Vc.put_some, ev_tmp, ev_const, Int.natCast_add, Int.natCast_one, Int.natCast_zero] <;> rfl) ⟨l, v', rfl, hR⟩
end Go.Proofs.Qxb6603720a
