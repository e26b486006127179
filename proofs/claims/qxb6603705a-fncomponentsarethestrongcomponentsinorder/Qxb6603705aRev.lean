import Derived.Test.Qxb6603705aC
set_option linter.unusedVariables false
set_option linter.unusedSimpArgs false
namespace Go.Proofs.Qxb6603705a
open Go Go.Vc Go.RowKit

theorem mixed : Try.prog.follows .mixedOrders = true := by kernel_rfl

theorem swap_at {n k off : Nat} {X : Nat → Int} {F' : Nat → Value} (hF' : ∀ p, p < n → F' (off + p) = .int .i64 (if p < k ∨ n ≤ p + k then X (n - 1 - p) else X p)) (hlt : (k : Int) < (n : Int) - 1 - k) (p : Nat) (hp : p < n) :
    (if off + p = off + (n - 1 - k) then Value.int .i64 (X k) else if off + p = off + k then Value.int .i64 (X (n - 1 - k)) else F' (off + p)) = .int .i64 (if p < k + 1 ∨ n ≤ p + (k + 1) then X (n - 1 - p) else X p) := by
  by_cases h1 : p = n - 1 - k
  · rw [if_pos (by omega), if_pos (by omega)]; congr 2; omega
  · rw [if_neg (by omega)]
    by_cases h2 : p = k
    · rw [if_pos (by omega), if_pos (by omega)]; congr 2; omega
    · rw [if_neg (by omega), hF' p hp]
      by_cases h3 : p < k ∨ n ≤ p + k
      · rw [if_pos h3, if_pos (by omega)]
      · rw [if_neg h3, if_neg (by omega)]

set_option maxHeartbeats 1000000 in
theorem reverse_any {w : World} {b : Nat} {v : Value} {n : Nat} {X : Nat → Int} (hown : Own w (some b) v 3 1 n (fun i => .int .i64 (X i))) (hn : n ≤ 4611686018427387904) :
    Calls Try.prog 26 #[v] w (fun e w' => e = .returned (.tuple #[]) ∧ Own w' (some b) v 3 1 n (fun i => .int .i64 (X (n - 1 - i))) ∧ w.grownBy w' (some b)) := by
  obtain ⟨off, cap, N, F, rfl, hcap, hN, hrow, hF⟩ := hown
  simp only [Nat.mul_one] at hN hF
  refine calls Try.func26 rfl Try.ntmps26 (by simp) (fun ρ hρ => ?_)
  have h0 : ρ 0 = .slice (some ⟨b, off, none⟩) n cap := hρ 0 (by simp)
  clear hρ
  refine G.seq ?_
  refine G.rg rfl ?_
  simp (disch := omega) only [ln29, idx29, sc3, true_and, vc_move, vc_assign, vc_pick, vc_load, vc_store, vc_bin, vc_un, vc_idx, vc_fld, vc_nilc, vc_ext, vc_slice, vc_func, vc_box, vc_len, vc_min, vc_nil, vc_guard, gdO_yes, gdO_ft, gdO_tf, gdO_un, gslot_cons0, gslot_consS, Vc.put_some, Vc.put_none, ev_tmp, ev_const, ev_func, upd_apply, Nat.reduceEqDiff, ↓reduceIte, vO_some, loadV_ptr, addrV_ptr, nilV_ptr, pickV_bool, ext2_0, ext2_1, unV_not, minV_int, binX_int, binX_str, binV_eql, binV_neq, binV_lss, binV_leq, binV_gtr, binV_geq, binV_add, binV_sub, binV_mul, add_at, Int.toNat_natCast, Nat.zero_add, Nat.add_zero, List.map_cons, List.map_nil, List.toList_toArray, Option.map_some, Option.map_none, true_and, Bool.false_eq_true, h0]
  refine G.forLoop (fun m ρ' w' => ∃ k : Nat, m = n - k ∧ 2 * k ≤ n ∧ ρ' 0 = .slice (some ⟨b, off, none⟩) n cap ∧ ρ' 2 = .int .i64 k ∧ ρ' 3 = .int .i64 ((n : Int) - 1 - k) ∧ w.grownBy w' (some b) ∧
      ∃ F', w'.rowIs b 3 N F' ∧ ∀ p, p < n → F' (off + p) = .int .i64 (if p < k ∨ n ≤ p + k then X (n - 1 - p) else X p))
    (fun ρ' w' => w.grownBy w' (some b) ∧ ∃ F', w'.rowIs b 3 N F' ∧ ∀ p, p < n → F' (off + p) = .int .i64 (X (n - 1 - p))) n ?_ ?_ ?_
  · refine ⟨0, by omega, by omega, (by simp only [upd_apply, Nat.reduceEqDiff, ↓reduceIte, Vc.put_some, ev_tmp, ev_const, Int.natCast_add, Int.natCast_one, Int.natCast_zero, h0] <;> rfl), (by simp only [upd_apply, Nat.reduceEqDiff, ↓reduceIte, Vc.put_some, ev_tmp, ev_const, Int.natCast_add, Int.natCast_one, Int.natCast_zero] <;> rfl), (by simp only [upd_apply, Nat.reduceEqDiff, ↓reduceIte, Vc.put_some, ev_tmp, ev_const, Int.natCast_add, Int.natCast_one, Int.natCast_zero, Int.sub_zero] <;> rfl), grown_refl _ _, F, hrow, fun p hp => ?_⟩
    rw [if_neg (by omega)]; exact hF p hp
  · rintro m ρ' w' ⟨k, rfl, hk, r0, r2, r3, hg, F', hr, hF'⟩ kL kX hround hx hpost
    refine G.seq (G.sr rfl ?_)
    simp (disch := omega) only [ln29, idx29, sc3, true_and, vc_move, vc_assign, vc_pick, vc_load, vc_store, vc_bin, vc_un, vc_idx, vc_fld, vc_nilc, vc_ext, vc_slice, vc_func, vc_box, vc_len, vc_min, vc_nil, vc_guard, gdO_yes, gdO_ft, gdO_tf, gdO_un, gslot_cons0, gslot_consS, Vc.put_some, Vc.put_none, ev_tmp, ev_const, ev_func, upd_apply, Nat.reduceEqDiff, ↓reduceIte, vO_some, loadV_ptr, addrV_ptr, nilV_ptr, pickV_bool, ext2_0, ext2_1, unV_not, minV_int, binX_int, binX_str, binV_eql, binV_neq, binV_lss, binV_leq, binV_gtr, binV_geq, binV_add, binV_sub, binV_mul, add_at, Int.toNat_natCast, Nat.zero_add, Nat.add_zero, List.map_cons, List.map_nil, List.toList_toArray, Option.map_some, Option.map_none, true_and, Bool.false_eq_true, r0, r2, r3]
    refine G.condD (p := (k : Int) < (n : Int) - 1 - k) (by simp only [upd_apply, Nat.reduceEqDiff, ↓reduceIte, Vc.put_some, ev_tmp, ev_const, Int.natCast_add, Int.natCast_one, Int.natCast_zero] <;> rfl) (fun hlt => ?_) (fun hge => ?_)
    · refine G.skip (G.seq (G.block ?_))
      have er : ((n : Int) - 1 - k).toNat = n - 1 - k := by omega
      have hc1 : w'.drew.cell? ⟨b, off + k, none⟩ = some (.int .i64 (X k)) := by
        rw [hr.drew.cell (by omega), hF' k (by omega), if_neg (by omega)]
      have hc2 : w'.drew.cell? ⟨b, off + (n - 1 - k), none⟩ = some (.int .i64 (X (n - 1 - k))) := by
        rw [hr.drew.cell (by omega), hF' _ (by omega), if_neg (by omega)]
      refine D.begin (fun _ => True) 16 rfl mixed ?_
      refine D.tk 0 (some 14) (.move (.tmp 0)) (.slice (some ⟨b, off, none⟩) n cap) rfl (by kernel_rfl) (by kernel_rfl) (by kernel_rfl) rfl (fun _ _ => (by simp only [upd_apply, Nat.reduceEqDiff, ↓reduceIte, Vc.put_some, ev_tmp, ev_const, Int.natCast_add, Int.natCast_one, Int.natCast_zero, rdF, mkO, r0] <;> rfl)) trivial ?_
      refine D.tk 1 (some 15) (.move (.tmp 2)) (.int .i64 k) rfl (by kernel_rfl) (by kernel_rfl) (by kernel_rfl) rfl (fun _ _ => (by simp only [upd_apply, Nat.reduceEqDiff, ↓reduceIte, Vc.put_some, ev_tmp, ev_const, Int.natCast_add, Int.natCast_one, Int.natCast_zero, rdF, mkO, r2] <;> rfl)) trivial ?_
      refine D.tk 2 (some 16) (.move (.tmp 0)) (.slice (some ⟨b, off, none⟩) n cap) rfl (by kernel_rfl) (by kernel_rfl) (by kernel_rfl) rfl (fun _ _ => (by simp only [upd_apply, Nat.reduceEqDiff, ↓reduceIte, Vc.put_some, ev_tmp, ev_const, Int.natCast_add, Int.natCast_one, Int.natCast_zero, rdF, mkO, r0] <;> rfl)) trivial ?_
      refine D.tk 3 (some 17) (.move (.tmp 3)) (.int .i64 ((n : Int) - 1 - k)) rfl (by kernel_rfl) (by kernel_rfl) (by kernel_rfl) rfl (fun _ _ => (by simp only [upd_apply, Nat.reduceEqDiff, ↓reduceIte, Vc.put_some, ev_tmp, ev_const, Int.natCast_add, Int.natCast_one, Int.natCast_zero, rdF, mkO, r3] <;> rfl)) trivial ?_
      refine D.tk 4 (some 18) (.move (.tmp 0)) (.slice (some ⟨b, off, none⟩) n cap) rfl (by kernel_rfl) (by kernel_rfl) (by kernel_rfl) rfl (fun _ _ => (by simp only [upd_apply, Nat.reduceEqDiff, ↓reduceIte, Vc.put_some, ev_tmp, ev_const, Int.natCast_add, Int.natCast_one, Int.natCast_zero, rdF, mkO, r0] <;> rfl)) trivial ?_
      refine D.tk 5 (some 19) (.move (.tmp 3)) (.int .i64 ((n : Int) - 1 - k)) rfl (by kernel_rfl) (by kernel_rfl) (by kernel_rfl) rfl (fun _ _ => (by simp only [upd_apply, Nat.reduceEqDiff, ↓reduceIte, Vc.put_some, ev_tmp, ev_const, Int.natCast_add, Int.natCast_one, Int.natCast_zero, rdF, mkO, r3] <;> rfl)) trivial ?_
      refine D.tk 8 (some 22) (.move (.tmp 0)) (.slice (some ⟨b, off, none⟩) n cap) rfl (by kernel_rfl) (by kernel_rfl) (by kernel_rfl) rfl (fun _ _ => (by simp only [upd_apply, Nat.reduceEqDiff, ↓reduceIte, Vc.put_some, ev_tmp, ev_const, Int.natCast_add, Int.natCast_one, Int.natCast_zero, rdF, mkO, r0] <;> rfl)) trivial ?_
      refine D.tk 9 (some 23) (.move (.tmp 2)) (.int .i64 k) rfl (by kernel_rfl) (by kernel_rfl) (by kernel_rfl) rfl (fun _ _ => (by simp only [upd_apply, Nat.reduceEqDiff, ↓reduceIte, Vc.put_some, ev_tmp, ev_const, Int.natCast_add, Int.natCast_one, Int.natCast_zero, rdF, mkO, r2] <;> rfl)) trivial ?_
      refine D.tk 6 (some 20) (.indexAddr 29 (.tmp 18) (.tmp 19)) (.pointer (some ⟨b, off + (n - 1 - k), none⟩)) rfl (by kernel_rfl) (by kernel_rfl) (by kernel_rfl) rfl (fun _ _ => by simp (disch := omega) only [rdF, mkO, upd_apply, Nat.reduceEqDiff, ↓reduceIte, Vc.put_some, Vc.put_none, ev_tmp, idx29, add_at, er, Int.toNat_natCast]) trivial ?_
      refine D.tk 10 (some 24) (.indexAddr 29 (.tmp 22) (.tmp 23)) (.pointer (some ⟨b, off + k, none⟩)) rfl (by kernel_rfl) (by kernel_rfl) (by kernel_rfl) rfl (fun _ _ => by simp (disch := omega) only [rdF, mkO, upd_apply, Nat.reduceEqDiff, ↓reduceIte, Vc.put_some, Vc.put_none, ev_tmp, idx29, add_at, er, Int.toNat_natCast]) trivial ?_
      refine D.rd2 7 11 (some 21) (some 25) (.load 3 (.tmp 20)) (.load 3 (.tmp 24)) (.int .i64 (X (n - 1 - k))) (.int .i64 (X k)) (by kernel_rfl) rfl rfl rfl rfl (by simp only [upd_apply, Nat.reduceEqDiff, ↓reduceIte, Vc.put_some, ev_tmp, ev_const, Int.natCast_add, Int.natCast_one, Int.natCast_zero, rdF, mkO, sc3, loadV_ptr, hc1, hc2] <;> rfl) (by simp only [upd_apply, Nat.reduceEqDiff, ↓reduceIte, Vc.put_some, ev_tmp, ev_const, Int.natCast_add, Int.natCast_one, Int.natCast_zero, rdF, mkO, sc3, loadV_ptr, hc1, hc2] <;> rfl) trivial ?_ ?_
      · refine D.rd1 11 (some 25) (.load 3 (.tmp 24)) (.int .i64 (X k)) (by kernel_rfl) rfl rfl (by simp only [upd_apply, Nat.reduceEqDiff, ↓reduceIte, Vc.put_some, ev_tmp, ev_const, Int.natCast_add, Int.natCast_one, Int.natCast_zero, rdF, mkO, sc3, loadV_ptr, hc1, hc2] <;> rfl) trivial ?_
        refine D.tk 12 (some 26) (.indexAddr 29 (.tmp 14) (.tmp 15)) (.pointer (some ⟨b, off + k, none⟩)) rfl (by kernel_rfl) (by kernel_rfl) (by kernel_rfl) rfl (fun _ _ => by simp (disch := omega) only [rdF, mkO, upd_apply, Nat.reduceEqDiff, ↓reduceIte, Vc.put_some, Vc.put_none, ev_tmp, idx29, add_at, er, Int.toNat_natCast]) trivial ?_
        refine D.st 13 3 (.tmp 26) (.tmp 21) ⟨b, off + k, none⟩ (.int .i64 (X (n - 1 - k))) (by kernel_rfl) rfl sc3 (by simp only [upd_apply, Nat.reduceEqDiff, ↓reduceIte, Vc.put_some, ev_tmp, ev_const, Int.natCast_add, Int.natCast_one, Int.natCast_zero] <;> rfl) (by simp only [upd_apply, Nat.reduceEqDiff, ↓reduceIte, Vc.put_some, ev_tmp, ev_const, Int.natCast_add, Int.natCast_one, Int.natCast_zero] <;> rfl) (by rw [hr.drew.cell (by omega)]; rfl) (hr.drew.frozen _) rfl trivial ?_
        refine D.tk 14 (some 27) (.indexAddr 29 (.tmp 16) (.tmp 17)) (.pointer (some ⟨b, off + (n - 1 - k), none⟩)) rfl (by kernel_rfl) (by kernel_rfl) (by kernel_rfl) rfl (fun _ _ => by simp (disch := omega) only [rdF, mkO, upd_apply, Nat.reduceEqDiff, ↓reduceIte, Vc.put_some, Vc.put_none, ev_tmp, idx29, add_at, er, Int.toNat_natCast]) trivial ?_
        refine D.st 15 3 (.tmp 27) (.tmp 25) ⟨b, off + (n - 1 - k), none⟩ (.int .i64 (X k)) (by kernel_rfl) rfl sc3 (by simp only [upd_apply, Nat.reduceEqDiff, ↓reduceIte, Vc.put_some, ev_tmp, ev_const, Int.natCast_add, Int.natCast_one, Int.natCast_zero] <;> rfl) (by simp only [upd_apply, Nat.reduceEqDiff, ↓reduceIte, Vc.put_some, ev_tmp, ev_const, Int.natCast_add, Int.natCast_one, Int.natCast_zero] <;> rfl) (by rw [(hr.drew.set _ _).cell (by omega)]; rfl) ((hr.drew.set _ _).frozen _) rfl trivial ?_
        refine D.done (by kernel_rfl) ?_
        refine G.inBlock (G.rg rfl ?_)
        simp (disch := omega) only [ln29, idx29, sc3, true_and, vc_move, vc_assign, vc_pick, vc_load, vc_store, vc_bin, vc_un, vc_idx, vc_fld, vc_nilc, vc_ext, vc_slice, vc_func, vc_box, vc_len, vc_min, vc_nil, vc_guard, gdO_yes, gdO_ft, gdO_tf, gdO_un, gslot_cons0, gslot_consS, Vc.put_some, Vc.put_none, ev_tmp, ev_const, ev_func, upd_apply, Nat.reduceEqDiff, ↓reduceIte, vO_some, loadV_ptr, addrV_ptr, nilV_ptr, pickV_bool, ext2_0, ext2_1, unV_not, minV_int, binX_int, binX_str, binV_eql, binV_neq, binV_lss, binV_leq, binV_gtr, binV_geq, binV_add, binV_sub, binV_mul, add_at, Int.toNat_natCast, Nat.zero_add, Nat.add_zero, List.map_cons, List.map_nil, List.toList_toArray, Option.map_some, Option.map_none, true_and, Bool.false_eq_true, r2, r3]
        refine hround (n - (k + 1)) _ _ (by omega) ⟨k + 1, rfl, by omega, (by simp only [upd_apply, Nat.reduceEqDiff, ↓reduceIte, Vc.put_some, ev_tmp, ev_const, Int.natCast_add, Int.natCast_one, Int.natCast_zero, r0] <;> rfl), (by simp only [upd_apply, Nat.reduceEqDiff, ↓reduceIte, Vc.put_some, ev_tmp, ev_const, Int.natCast_add, Int.natCast_one, Int.natCast_zero] <;> rfl), ?_, grown_trans hg (grown_trans (grown_trans (grown_drew _ _) (grown_set _ _ _ _)) (grown_set _ _ _ _)), _, (hr.drew.set _ _).set _ _, fun p hp => ?_⟩
        · simp only [upd_apply, Nat.reduceEqDiff, ↓reduceIte]; congr 1; omega
        · exact swap_at hF' hlt p hp
      · refine D.rd1 7 (some 21) (.load 3 (.tmp 20)) (.int .i64 (X (n - 1 - k))) (by kernel_rfl) rfl rfl (by simp only [upd_apply, Nat.reduceEqDiff, ↓reduceIte, Vc.put_some, ev_tmp, ev_const, Int.natCast_add, Int.natCast_one, Int.natCast_zero, rdF, mkO, sc3, loadV_ptr, hc1, hc2] <;> rfl) trivial ?_
        refine D.tk 12 (some 26) (.indexAddr 29 (.tmp 14) (.tmp 15)) (.pointer (some ⟨b, off + k, none⟩)) rfl (by kernel_rfl) (by kernel_rfl) (by kernel_rfl) rfl (fun _ _ => by simp (disch := omega) only [rdF, mkO, upd_apply, Nat.reduceEqDiff, ↓reduceIte, Vc.put_some, Vc.put_none, ev_tmp, idx29, add_at, er, Int.toNat_natCast]) trivial ?_
        refine D.st 13 3 (.tmp 26) (.tmp 21) ⟨b, off + k, none⟩ (.int .i64 (X (n - 1 - k))) (by kernel_rfl) rfl sc3 (by simp only [upd_apply, Nat.reduceEqDiff, ↓reduceIte, Vc.put_some, ev_tmp, ev_const, Int.natCast_add, Int.natCast_one, Int.natCast_zero] <;> rfl) (by simp only [upd_apply, Nat.reduceEqDiff, ↓reduceIte, Vc.put_some, ev_tmp, ev_const, Int.natCast_add, Int.natCast_one, Int.natCast_zero] <;> rfl) (by rw [hr.drew.cell (by omega)]; rfl) (hr.drew.frozen _) rfl trivial ?_
        refine D.tk 14 (some 27) (.indexAddr 29 (.tmp 16) (.tmp 17)) (.pointer (some ⟨b, off + (n - 1 - k), none⟩)) rfl (by kernel_rfl) (by kernel_rfl) (by kernel_rfl) rfl (fun _ _ => by simp (disch := omega) only [rdF, mkO, upd_apply, Nat.reduceEqDiff, ↓reduceIte, Vc.put_some, Vc.put_none, ev_tmp, idx29, add_at, er, Int.toNat_natCast]) trivial ?_
        refine D.st 15 3 (.tmp 27) (.tmp 25) ⟨b, off + (n - 1 - k), none⟩ (.int .i64 (X k)) (by kernel_rfl) rfl sc3 (by simp only [upd_apply, Nat.reduceEqDiff, ↓reduceIte, Vc.put_some, ev_tmp, ev_const, Int.natCast_add, Int.natCast_one, Int.natCast_zero] <;> rfl) (by simp only [upd_apply, Nat.reduceEqDiff, ↓reduceIte, Vc.put_some, ev_tmp, ev_const, Int.natCast_add, Int.natCast_one, Int.natCast_zero] <;> rfl) (by rw [(hr.drew.set _ _).cell (by omega)]; rfl) ((hr.drew.set _ _).frozen _) rfl trivial ?_
        refine D.done (by kernel_rfl) ?_
        refine G.inBlock (G.rg rfl ?_)
        simp (disch := omega) only [ln29, idx29, sc3, true_and, vc_move, vc_assign, vc_pick, vc_load, vc_store, vc_bin, vc_un, vc_idx, vc_fld, vc_nilc, vc_ext, vc_slice, vc_func, vc_box, vc_len, vc_min, vc_nil, vc_guard, gdO_yes, gdO_ft, gdO_tf, gdO_un, gslot_cons0, gslot_consS, Vc.put_some, Vc.put_none, ev_tmp, ev_const, ev_func, upd_apply, Nat.reduceEqDiff, ↓reduceIte, vO_some, loadV_ptr, addrV_ptr, nilV_ptr, pickV_bool, ext2_0, ext2_1, unV_not, minV_int, binX_int, binX_str, binV_eql, binV_neq, binV_lss, binV_leq, binV_gtr, binV_geq, binV_add, binV_sub, binV_mul, add_at, Int.toNat_natCast, Nat.zero_add, Nat.add_zero, List.map_cons, List.map_nil, List.toList_toArray, Option.map_some, Option.map_none, true_and, Bool.false_eq_true, r2, r3]
        refine hround (n - (k + 1)) _ _ (by omega) ⟨k + 1, rfl, by omega, (by simp only [upd_apply, Nat.reduceEqDiff, ↓reduceIte, Vc.put_some, ev_tmp, ev_const, Int.natCast_add, Int.natCast_one, Int.natCast_zero, r0] <;> rfl), (by simp only [upd_apply, Nat.reduceEqDiff, ↓reduceIte, Vc.put_some, ev_tmp, ev_const, Int.natCast_add, Int.natCast_one, Int.natCast_zero] <;> rfl), ?_, grown_trans hg (grown_trans (grown_trans (grown_drew _ _) (grown_set _ _ _ _)) (grown_set _ _ _ _)), _, (hr.drew.set _ _).set _ _, fun p hp => ?_⟩
        · simp only [upd_apply, Nat.reduceEqDiff, ↓reduceIte]; congr 1; omega
        · exact swap_at hF' hlt p hp
    · refine G.exit hx (hpost _ _ ⟨hg, F', hr, fun p hp => ?_⟩)
      rw [hF' p hp]
      by_cases e : p < k ∨ n ≤ p + k
      · rw [if_pos e]
      · rw [if_neg e]; congr 2; omega
  · rintro ρ' w' ⟨hg, F', hr, hF'⟩
    exact G.end0 Try.func26 rfl ⟨rfl, ⟨off, cap, N, F', rfl, hcap, by simpa using hN, hr, fun i hi => hF' i (by omega)⟩, hg⟩
end Go.Proofs.Qxb6603705a
