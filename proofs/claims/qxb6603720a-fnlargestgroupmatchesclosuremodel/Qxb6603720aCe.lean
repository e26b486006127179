import Derived.Test.Qxb6603720aRows
import Derived.Test.Qxb6603720aDraw
import Derived.Test.Qxb6603720aWd
import Derived.Test.Qxb6603720aFl
set_option linter.unusedVariables false
set_option linter.unusedSimpArgs false
namespace Go.Proofs.Qxb6603720a
open Go Go.Vc Go.RowKit Go.Fl

def Rd (w : World) (v : Value) (n : Nat) (X : Nat → Value) : Prop := ∃ a cap, v = .slice a n cap ∧ n ≤ cap ∧ (0 < n → ∃ b off, a = some ⟨b, off, none⟩ ∧ ∀ i, i < n → w.cell? ⟨b, off + i, none⟩ = some (X i))
def fl (b : Nat) : Value := .float .f64 b
def sl (b n : Nat) : Value := .slice (some ⟨b, 0, none⟩) n n

theorem el27 : elemB Try.prog 27 = some 29 := by kernel_rfl
theorem sc3 : scalarB Try.prog 3 = true := by kernel_rfl
theorem sc2 : scalarB Try.prog 2 = true := by kernel_rfl
theorem sc29 : scalarB Try.prog 29 = true := by kernel_rfl
theorem slT27 : sliceT Try.prog 27 = true := by kernel_rfl
theorem em27 : Elem Try.prog 27 29 1 8 (.float .f64 0) := ⟨Try.underlying27, by kernel_rfl, rfl⟩
theorem ln27 (a : Option Addr) (len cap : Nat) : lenV Try.prog 27 (.slice a len cap) = some (.int .i64 len) := lenV_slice Try.underlying27 a len cap
theorem idx27 (a : Addr) (len cap : Nat) (k : IntKind) (n : Int) (h1 : 0 ≤ n) (h2 : n < len) : idxV Try.prog 27 (.slice (some a) len cap) (.int k n) = some (.pointer (some (a.add n.toNat))) := idxV_in el27 a len cap k n h1 h2
theorem cvIF (q : IntKind) (z : Int) : cvV Try.prog 3 29 (.int q z) = some (.float .f64 (floatOfInt .f64 z)) := by
  simp [cvV, Try.underlying3, Try.underlying29]
theorem cvIF2 (q : IntKind) (z : Int) : cvV Try.prog 2 29 (.int q z) = some (.float .f64 (floatOfInt .f64 z)) := by
  simp [cvV, Try.underlying2, Try.underlying29]
theorem cvFI {b : Nat} {z : Int} (h : floatToIntVal .f64 b .i64 = some z) : cvV Try.prog 29 2 (.float .f64 b) = some (.int .i64 z) := by
  simp [cvV, Try.underlying2, Try.underlying29, h]
theorem binX_flt (op : BinOp) (t : TypeId) (a b : Nat) : binX Try.prog op t (.float .f64 a) (.float .f64 b) = binV op (.float .f64 a) (.float .f64 b) := rfl
theorem fadd {a b r : Nat} (h : Ieee.double.add a b = some r) : binV .add (.float .f64 a) (.float .f64 b) = some (.float .f64 r) := by simp [binV, h]
theorem fsub {a b r : Nat} (h : Ieee.double.sub a b = some r) : binV .sub (.float .f64 a) (.float .f64 b) = some (.float .f64 r) := by simp [binV, h]
theorem fdiv {a b r : Nat} (h : Ieee.double.div a b = some r) : binV .quo (.float .f64 a) (.float .f64 b) = some (.float .f64 r) := by simp [binV, h]
theorem fneq (a b : Nat) : binV .neq (.float .f64 a) (.float .f64 b) = some (.bool (Ieee.double.order a b != some .eq)) := by simp [binV]
theorem fleq (a b : Nat) : binV .leq (.float .f64 a) (.float .f64 b) = some (.bool (Ieee.double.order a b == some .lt || Ieee.double.order a b == some .eq)) := by simp [binV]
theorem fgeq (a b : Nat) : binV .geq (.float .f64 a) (.float .f64 b) = some (.bool (Ieee.double.order a b == some .gt || Ieee.double.order a b == some .eq)) := by simp [binV]
theorem v2_of (z : Int) (h : z.natAbs < 9007199254740992) : V2 (floatOfInt .f64 z) z := of_int z h
theorem mixed' : Try.prog.follows .mixedOrders = true := by kernel_rfl

theorem grown_fresh {a b c : World} {x : Nat} (h : a.grownBy b none) (k : b.grownBy c (some x)) (hx : a.heap.size ≤ x) : a.grownBy c none :=
  ⟨k.os.trans h.os, k.tape.trans h.tape, k.output.trans h.output, Nat.le_trans h.size k.size, fun i hi hr => (k.block i (Nat.lt_of_lt_of_le hi h.size) (fun e => by simp at e; omega)).trans (h.block i hi hr)⟩
theorem rowIs_grown {w w' : World} {b : Nat} {t : TypeId} {n : Nat} {f : Nat → Value} {r : Option Nat} (h : w.rowIs b t n f) (hg : w.grownBy w' r) (hne : some b ≠ r) : w'.rowIs b t n f := h.of_block (hg.block b h.lt hne)

def sumZ (z : Nat → Int) : Nat → Int
  | 0 => 0
  | k + 1 => sumZ z k + z k

/-- centre, where the sums are exact -/
theorem centre_any {w : World} {b n : Nat} {F : Nat → Nat} {z : Nat → Int} {q : Int} (hn0 : 0 < n) (hn : n ≤ 131072) (hrow : w.rowIs b 29 n (fun i => .float .f64 (F i))) (hz : ∀ i, i < n → V2 (F i) (z i))
    (hs : ∀ k, k ≤ n → (sumZ z k).natAbs < 9007199254740992) (hq : sumZ z n = q * n) (hqb : q.natAbs < 9007199254740992) (hd : ∀ i, i < n → (z i - q).natAbs < 9007199254740992) :
    Calls Try.prog 26 #[sl b n] w (fun e w' => ∃ F' : Nat → Nat, e = .returned (.tuple #[]) ∧ w'.rowIs b 29 n (fun i => .float .f64 (F' i)) ∧ (∀ i, i < n → V2 (F' i) (z i - q)) ∧ w.grownBy w' (some b)) := by
  refine calls Try.func26 rfl Try.ntmps26 (by simp) (fun ρ hρ => ?_)
  have h0 : ρ 0 = .slice (some ⟨b, 0, none⟩) n n := hρ 0 (by simp)
  clear hρ
  refine G.sr rfl ?_
  simp (disch := omega) only [ln27, idx27, sc3, sc2, sc29, vc_conv, cvIF, cvIF2, binX_flt, true_and, vc_move, vc_assign, vc_pick, vc_load, vc_store, vc_bin, vc_un, vc_idx, vc_fld, vc_nilc, vc_ext, vc_slice, vc_func, vc_box, vc_len, vc_min, vc_nil, vc_guard, gdO_yes, gdO_ft, gdO_tf, gdO_un, gslot_cons0, gslot_consS, Vc.put_some, Vc.put_none, ev_tmp, ev_const, ev_func, upd_apply, Nat.reduceEqDiff, ↓reduceIte, vO_some, loadV_ptr, addrV_ptr, nilV_ptr, pickV_bool, ext2_0, ext2_1, unV_not, minV_int, binX_int, binX_str, binV_eql, binV_neq, binV_lss, binV_leq, binV_gtr, binV_geq, binV_add, binV_sub, binV_mul, add_at, Int.toNat_natCast, Nat.zero_add, Nat.add_zero, List.map_cons, List.map_nil, List.toList_toArray, Option.map_some, Option.map_none, true_and, Bool.false_eq_true]
  refine G.seq (G.sr rfl ?_)
  simp (disch := omega) only [ln27, idx27, sc3, sc2, sc29, vc_conv, cvIF, cvIF2, binX_flt, true_and, vc_move, vc_assign, vc_pick, vc_load, vc_store, vc_bin, vc_un, vc_idx, vc_fld, vc_nilc, vc_ext, vc_slice, vc_func, vc_box, vc_len, vc_min, vc_nil, vc_guard, gdO_yes, gdO_ft, gdO_tf, gdO_un, gslot_cons0, gslot_consS, Vc.put_some, Vc.put_none, ev_tmp, ev_const, ev_func, upd_apply, Nat.reduceEqDiff, ↓reduceIte, vO_some, loadV_ptr, addrV_ptr, nilV_ptr, pickV_bool, ext2_0, ext2_1, unV_not, minV_int, binX_int, binX_str, binV_eql, binV_neq, binV_lss, binV_leq, binV_gtr, binV_geq, binV_add, binV_sub, binV_mul, add_at, Int.toNat_natCast, Nat.zero_add, Nat.add_zero, List.map_cons, List.map_nil, List.toList_toArray, Option.map_some, Option.map_none, true_and, Bool.false_eq_true, h0]
  refine G.forLoop (fun m ρ' w' => ∃ k s : Nat, m = n - k ∧ k ≤ n ∧ w' = w ∧ ρ' 0 = .slice (some ⟨b, 0, none⟩) n n ∧ ρ' 2 = .float .f64 s ∧ ρ' 7 = .slice (some ⟨b, 0, none⟩) n n ∧ ρ' 8 = .int .i64 n ∧ ρ' 9 = .int .i64 k ∧ V2 s (sumZ z k))
    (fun ρ' w' => ∃ s : Nat, w' = w ∧ ρ' 0 = .slice (some ⟨b, 0, none⟩) n n ∧ ρ' 2 = .float .f64 s ∧ V2 s (sumZ z n)) n ?_ ?_ ?_
  · exact ⟨0, 0, by omega, by omega, rfl, (by simp only [upd_apply, Nat.reduceEqDiff, ↓reduceIte, Vc.put_some, ev_tmp, ev_const, Int.natCast_add, Int.natCast_one, Int.natCast_zero, h0] <;> rfl), (by simp only [upd_apply, Nat.reduceEqDiff, ↓reduceIte, Vc.put_some, ev_tmp, ev_const, Int.natCast_add, Int.natCast_one, Int.natCast_zero] <;> rfl), (by simp only [upd_apply, Nat.reduceEqDiff, ↓reduceIte, Vc.put_some, ev_tmp, ev_const, Int.natCast_add, Int.natCast_one, Int.natCast_zero] <;> rfl), (by simp only [upd_apply, Nat.reduceEqDiff, ↓reduceIte, Vc.put_some, ev_tmp, ev_const, Int.natCast_add, Int.natCast_one, Int.natCast_zero] <;> rfl), (by simp only [upd_apply, Nat.reduceEqDiff, ↓reduceIte, Vc.put_some, ev_tmp, ev_const, Int.natCast_add, Int.natCast_one, Int.natCast_zero] <;> rfl), v2_zero⟩
  · rintro m ρ' w' ⟨k, s, rfl, hk, hw, r0, r2, r7, r8, r9, hv⟩ kL kX hround hx hpost
    subst hw
    refine G.sr rfl ?_
    simp (disch := omega) only [ln27, idx27, sc3, sc2, sc29, vc_conv, cvIF, cvIF2, binX_flt, true_and, vc_move, vc_assign, vc_pick, vc_load, vc_store, vc_bin, vc_un, vc_idx, vc_fld, vc_nilc, vc_ext, vc_slice, vc_func, vc_box, vc_len, vc_min, vc_nil, vc_guard, gdO_yes, gdO_ft, gdO_tf, gdO_un, gslot_cons0, gslot_consS, Vc.put_some, Vc.put_none, ev_tmp, ev_const, ev_func, upd_apply, Nat.reduceEqDiff, ↓reduceIte, vO_some, loadV_ptr, addrV_ptr, nilV_ptr, pickV_bool, ext2_0, ext2_1, unV_not, minV_int, binX_int, binX_str, binV_eql, binV_neq, binV_lss, binV_leq, binV_gtr, binV_geq, binV_add, binV_sub, binV_mul, add_at, Int.toNat_natCast, Nat.zero_add, Nat.add_zero, List.map_cons, List.map_nil, List.toList_toArray, Option.map_some, Option.map_none, true_and, Bool.false_eq_true, r8, r9]
    refine G.seq (G.condD (p := (k : Int) < n) (by simp only [upd_apply, Nat.reduceEqDiff, ↓reduceIte, Vc.put_some, ev_tmp, ev_const, Int.natCast_add, Int.natCast_one, Int.natCast_zero] <;> rfl) (fun hlt => ?_) (fun hge => ?_))
    · have hkn : k < n := by omega
      have ck : w'.cell? ⟨b, k, none⟩ = some (.float .f64 (F k)) := hrow.cell hkn
      obtain ⟨r, hr, hvr⟩ := add_ok hv (hz k hkn) (hs (k + 1) (by omega))
      refine G.skip (G.seq (G.block (G.sr rfl ?_)))
      simp (disch := omega) only [ln27, idx27, sc3, sc2, sc29, vc_conv, cvIF, cvIF2, binX_flt, true_and, vc_move, vc_assign, vc_pick, vc_load, vc_store, vc_bin, vc_un, vc_idx, vc_fld, vc_nilc, vc_ext, vc_slice, vc_func, vc_box, vc_len, vc_min, vc_nil, vc_guard, gdO_yes, gdO_ft, gdO_tf, gdO_un, gslot_cons0, gslot_consS, Vc.put_some, Vc.put_none, ev_tmp, ev_const, ev_func, upd_apply, Nat.reduceEqDiff, ↓reduceIte, vO_some, loadV_ptr, addrV_ptr, nilV_ptr, pickV_bool, ext2_0, ext2_1, unV_not, minV_int, binX_int, binX_str, binV_eql, binV_neq, binV_lss, binV_leq, binV_gtr, binV_geq, binV_add, binV_sub, binV_mul, add_at, Int.toNat_natCast, Nat.zero_add, Nat.add_zero, List.map_cons, List.map_nil, List.toList_toArray, Option.map_some, Option.map_none, true_and, Bool.false_eq_true, r7, r9, ck]
      refine G.rg rfl ?_
      simp (disch := omega) only [ln27, idx27, sc3, sc2, sc29, vc_conv, cvIF, cvIF2, binX_flt, true_and, vc_move, vc_assign, vc_pick, vc_load, vc_store, vc_bin, vc_un, vc_idx, vc_fld, vc_nilc, vc_ext, vc_slice, vc_func, vc_box, vc_len, vc_min, vc_nil, vc_guard, gdO_yes, gdO_ft, gdO_tf, gdO_un, gslot_cons0, gslot_consS, Vc.put_some, Vc.put_none, ev_tmp, ev_const, ev_func, upd_apply, Nat.reduceEqDiff, ↓reduceIte, vO_some, loadV_ptr, addrV_ptr, nilV_ptr, pickV_bool, ext2_0, ext2_1, unV_not, minV_int, binX_int, binX_str, binV_eql, binV_neq, binV_lss, binV_leq, binV_gtr, binV_geq, binV_add, binV_sub, binV_mul, add_at, Int.toNat_natCast, Nat.zero_add, Nat.add_zero, List.map_cons, List.map_nil, List.toList_toArray, Option.map_some, Option.map_none, true_and, Bool.false_eq_true, r2, fadd hr]
      refine G.inBlock (G.rg rfl ?_)
      simp (disch := omega) only [ln27, idx27, sc3, sc2, sc29, vc_conv, cvIF, cvIF2, binX_flt, true_and, vc_move, vc_assign, vc_pick, vc_load, vc_store, vc_bin, vc_un, vc_idx, vc_fld, vc_nilc, vc_ext, vc_slice, vc_func, vc_box, vc_len, vc_min, vc_nil, vc_guard, gdO_yes, gdO_ft, gdO_tf, gdO_un, gslot_cons0, gslot_consS, Vc.put_some, Vc.put_none, ev_tmp, ev_const, ev_func, upd_apply, Nat.reduceEqDiff, ↓reduceIte, vO_some, loadV_ptr, addrV_ptr, nilV_ptr, pickV_bool, ext2_0, ext2_1, unV_not, minV_int, binX_int, binX_str, binV_eql, binV_neq, binV_lss, binV_leq, binV_gtr, binV_geq, binV_add, binV_sub, binV_mul, add_at, Int.toNat_natCast, Nat.zero_add, Nat.add_zero, List.map_cons, List.map_nil, List.toList_toArray, Option.map_some, Option.map_none, true_and, Bool.false_eq_true, r9]
      exact hround (n - (k + 1)) _ _ (by omega) ⟨k + 1, r, rfl, by omega, rfl, (by simp only [upd_apply, Nat.reduceEqDiff, ↓reduceIte, Vc.put_some, ev_tmp, ev_const, Int.natCast_add, Int.natCast_one, Int.natCast_zero, r0] <;> rfl), (by simp only [upd_apply, Nat.reduceEqDiff, ↓reduceIte, Vc.put_some, ev_tmp, ev_const, Int.natCast_add, Int.natCast_one, Int.natCast_zero] <;> rfl), (by simp only [upd_apply, Nat.reduceEqDiff, ↓reduceIte, Vc.put_some, ev_tmp, ev_const, Int.natCast_add, Int.natCast_one, Int.natCast_zero, r7] <;> rfl), (by simp only [upd_apply, Nat.reduceEqDiff, ↓reduceIte, Vc.put_some, ev_tmp, ev_const, Int.natCast_add, Int.natCast_one, Int.natCast_zero, r8] <;> rfl), (by simp only [upd_apply, Nat.reduceEqDiff, ↓reduceIte, Vc.put_some, ev_tmp, ev_const, Int.natCast_add, Int.natCast_one, Int.natCast_zero] <;> rfl), hvr⟩
    · have hke : k = n := by omega
      subst hke
      exact G.exit (G.exitC hx) (hpost _ _ ⟨s, rfl, (by simp only [upd_apply, Nat.reduceEqDiff, ↓reduceIte, Vc.put_some, ev_tmp, ev_const, Int.natCast_add, Int.natCast_one, Int.natCast_zero, r0] <;> rfl), (by simp only [upd_apply, Nat.reduceEqDiff, ↓reduceIte, Vc.put_some, ev_tmp, ev_const, Int.natCast_add, Int.natCast_one, Int.natCast_zero, r2] <;> rfl), hv⟩)
  rintro ρ1 w1 ⟨s, hw, r0, r2, hv⟩
  subst hw
  obtain ⟨mu, hmu, hvm⟩ := div_ok hv (v2_of (n : Int) (by omega)) hq (by omega) (hs n (Nat.le_refl _)) (by omega) hqb
  refine G.sr rfl ?_
  simp (disch := omega) only [ln27, idx27, sc3, sc2, sc29, vc_conv, cvIF, cvIF2, binX_flt, true_and, vc_move, vc_assign, vc_pick, vc_load, vc_store, vc_bin, vc_un, vc_idx, vc_fld, vc_nilc, vc_ext, vc_slice, vc_func, vc_box, vc_len, vc_min, vc_nil, vc_guard, gdO_yes, gdO_ft, gdO_tf, gdO_un, gslot_cons0, gslot_consS, Vc.put_some, Vc.put_none, ev_tmp, ev_const, ev_func, upd_apply, Nat.reduceEqDiff, ↓reduceIte, vO_some, loadV_ptr, addrV_ptr, nilV_ptr, pickV_bool, ext2_0, ext2_1, unV_not, minV_int, binX_int, binX_str, binV_eql, binV_neq, binV_lss, binV_leq, binV_gtr, binV_geq, binV_add, binV_sub, binV_mul, add_at, Int.toNat_natCast, Nat.zero_add, Nat.add_zero, List.map_cons, List.map_nil, List.toList_toArray, Option.map_some, Option.map_none, true_and, Bool.false_eq_true, r0, r2, fdiv hmu]
  refine G.sr rfl ?_
  simp (disch := omega) only [ln27, idx27, sc3, sc2, sc29, vc_conv, cvIF, cvIF2, binX_flt, true_and, vc_move, vc_assign, vc_pick, vc_load, vc_store, vc_bin, vc_un, vc_idx, vc_fld, vc_nilc, vc_ext, vc_slice, vc_func, vc_box, vc_len, vc_min, vc_nil, vc_guard, gdO_yes, gdO_ft, gdO_tf, gdO_un, gslot_cons0, gslot_consS, Vc.put_some, Vc.put_none, ev_tmp, ev_const, ev_func, upd_apply, Nat.reduceEqDiff, ↓reduceIte, vO_some, loadV_ptr, addrV_ptr, nilV_ptr, pickV_bool, ext2_0, ext2_1, unV_not, minV_int, binX_int, binX_str, binV_eql, binV_neq, binV_lss, binV_leq, binV_gtr, binV_geq, binV_add, binV_sub, binV_mul, add_at, Int.toNat_natCast, Nat.zero_add, Nat.add_zero, List.map_cons, List.map_nil, List.toList_toArray, Option.map_some, Option.map_none, true_and, Bool.false_eq_true, r0]
  refine G.forLoop (fun m ρ' w' => ∃ k : Nat, m = n - k ∧ k ≤ n ∧ w1.grownBy w' (some b) ∧ ρ' 0 = .slice (some ⟨b, 0, none⟩) n n ∧ ρ' 5 = .float .f64 mu ∧ ρ' 23 = .int .i64 n ∧ ρ' 24 = .int .i64 k ∧ ∃ F' : Nat → Nat, w'.rowIs b 29 n (fun i => .float .f64 (F' i)) ∧ (∀ i, i < k → V2 (F' i) (z i - q)) ∧ ∀ i, k ≤ i → F' i = F i)
    (fun ρ' w' => w1.grownBy w' (some b) ∧ ∃ F' : Nat → Nat, w'.rowIs b 29 n (fun i => .float .f64 (F' i)) ∧ ∀ i, i < n → V2 (F' i) (z i - q)) n ?_ ?_ ?_
  · exact ⟨0, by omega, by omega, grown_refl _ _, (by simp only [upd_apply, Nat.reduceEqDiff, ↓reduceIte, Vc.put_some, ev_tmp, ev_const, Int.natCast_add, Int.natCast_one, Int.natCast_zero, r0] <;> rfl), (by simp only [upd_apply, Nat.reduceEqDiff, ↓reduceIte, Vc.put_some, ev_tmp, ev_const, Int.natCast_add, Int.natCast_one, Int.natCast_zero] <;> rfl), (by simp only [upd_apply, Nat.reduceEqDiff, ↓reduceIte, Vc.put_some, ev_tmp, ev_const, Int.natCast_add, Int.natCast_one, Int.natCast_zero] <;> rfl), (by simp only [upd_apply, Nat.reduceEqDiff, ↓reduceIte, Vc.put_some, ev_tmp, ev_const, Int.natCast_add, Int.natCast_one, Int.natCast_zero] <;> rfl), F, hrow, by omega, fun _ _ => rfl⟩
  · clear r0 r2
    rintro m ρ' w' ⟨k, rfl, hk, hg, r0, r5, r23, r24, F', hF', hd1, hd2⟩ kL kX hround hx hpost
    refine G.sr rfl ?_
    simp (disch := omega) only [ln27, idx27, sc3, sc2, sc29, vc_conv, cvIF, cvIF2, binX_flt, true_and, vc_move, vc_assign, vc_pick, vc_load, vc_store, vc_bin, vc_un, vc_idx, vc_fld, vc_nilc, vc_ext, vc_slice, vc_func, vc_box, vc_len, vc_min, vc_nil, vc_guard, gdO_yes, gdO_ft, gdO_tf, gdO_un, gslot_cons0, gslot_consS, Vc.put_some, Vc.put_none, ev_tmp, ev_const, ev_func, upd_apply, Nat.reduceEqDiff, ↓reduceIte, vO_some, loadV_ptr, addrV_ptr, nilV_ptr, pickV_bool, ext2_0, ext2_1, unV_not, minV_int, binX_int, binX_str, binV_eql, binV_neq, binV_lss, binV_leq, binV_gtr, binV_geq, binV_add, binV_sub, binV_mul, add_at, Int.toNat_natCast, Nat.zero_add, Nat.add_zero, List.map_cons, List.map_nil, List.toList_toArray, Option.map_some, Option.map_none, true_and, Bool.false_eq_true, r23, r24]
    refine G.seq (G.condD (p := (k : Int) < n) (by simp only [upd_apply, Nat.reduceEqDiff, ↓reduceIte, Vc.put_some, ev_tmp, ev_const, Int.natCast_add, Int.natCast_one, Int.natCast_zero] <;> rfl) (fun hlt => ?_) (fun hge => ?_))
    · have hkn : k < n := by omega
      have ck : w'.cell? ⟨b, k, none⟩ = some (.float .f64 (F k)) := by rw [hF'.cell hkn, hd2 k (Nat.le_refl _)]
      obtain ⟨r, hr, hvr⟩ := sub_ok (hz k hkn) hvm (hd k hkn)
      refine G.skip (G.seq (G.block (G.sr rfl ?_)))
      simp (disch := omega) only [ln27, idx27, sc3, sc2, sc29, vc_conv, cvIF, cvIF2, binX_flt, true_and, vc_move, vc_assign, vc_pick, vc_load, vc_store, vc_bin, vc_un, vc_idx, vc_fld, vc_nilc, vc_ext, vc_slice, vc_func, vc_box, vc_len, vc_min, vc_nil, vc_guard, gdO_yes, gdO_ft, gdO_tf, gdO_un, gslot_cons0, gslot_consS, Vc.put_some, Vc.put_none, ev_tmp, ev_const, ev_func, upd_apply, Nat.reduceEqDiff, ↓reduceIte, vO_some, loadV_ptr, addrV_ptr, nilV_ptr, pickV_bool, ext2_0, ext2_1, unV_not, minV_int, binX_int, binX_str, binV_eql, binV_neq, binV_lss, binV_leq, binV_gtr, binV_geq, binV_add, binV_sub, binV_mul, add_at, Int.toNat_natCast, Nat.zero_add, Nat.add_zero, List.map_cons, List.map_nil, List.toList_toArray, Option.map_some, Option.map_none, true_and, Bool.false_eq_true, r24]
      refine G.rg rfl ?_
      simp (disch := omega) only [ln27, idx27, sc3, sc2, sc29, vc_conv, cvIF, cvIF2, binX_flt, true_and, vc_move, vc_assign, vc_pick, vc_load, vc_store, vc_bin, vc_un, vc_idx, vc_fld, vc_nilc, vc_ext, vc_slice, vc_func, vc_box, vc_len, vc_min, vc_nil, vc_guard, gdO_yes, gdO_ft, gdO_tf, gdO_un, gslot_cons0, gslot_consS, Vc.put_some, Vc.put_none, ev_tmp, ev_const, ev_func, upd_apply, Nat.reduceEqDiff, ↓reduceIte, vO_some, loadV_ptr, addrV_ptr, nilV_ptr, pickV_bool, ext2_0, ext2_1, unV_not, minV_int, binX_int, binX_str, binV_eql, binV_neq, binV_lss, binV_leq, binV_gtr, binV_geq, binV_add, binV_sub, binV_mul, add_at, Int.toNat_natCast, Nat.zero_add, Nat.add_zero, List.map_cons, List.map_nil, List.toList_toArray, Option.map_some, Option.map_none, true_and, Bool.false_eq_true, r0, r5, ck, fsub hr]
      rw [stO_ok (by rw [ck]; rfl) (hF'.frozen _) rfl]
      simp (disch := omega) only [ln27, idx27, sc3, sc2, sc29, vc_conv, cvIF, cvIF2, binX_flt, true_and, vc_move, vc_assign, vc_pick, vc_load, vc_store, vc_bin, vc_un, vc_idx, vc_fld, vc_nilc, vc_ext, vc_slice, vc_func, vc_box, vc_len, vc_min, vc_nil, vc_guard, gdO_yes, gdO_ft, gdO_tf, gdO_un, gslot_cons0, gslot_consS, Vc.put_some, Vc.put_none, ev_tmp, ev_const, ev_func, upd_apply, Nat.reduceEqDiff, ↓reduceIte, vO_some, loadV_ptr, addrV_ptr, nilV_ptr, pickV_bool, ext2_0, ext2_1, unV_not, minV_int, binX_int, binX_str, binV_eql, binV_neq, binV_lss, binV_leq, binV_gtr, binV_geq, binV_add, binV_sub, binV_mul, add_at, Int.toNat_natCast, Nat.zero_add, Nat.add_zero, List.map_cons, List.map_nil, List.toList_toArray, Option.map_some, Option.map_none, true_and, Bool.false_eq_true]
      refine G.inBlock (G.rg rfl ?_)
      simp (disch := omega) only [ln27, idx27, sc3, sc2, sc29, vc_conv, cvIF, cvIF2, binX_flt, true_and, vc_move, vc_assign, vc_pick, vc_load, vc_store, vc_bin, vc_un, vc_idx, vc_fld, vc_nilc, vc_ext, vc_slice, vc_func, vc_box, vc_len, vc_min, vc_nil, vc_guard, gdO_yes, gdO_ft, gdO_tf, gdO_un, gslot_cons0, gslot_consS, Vc.put_some, Vc.put_none, ev_tmp, ev_const, ev_func, upd_apply, Nat.reduceEqDiff, ↓reduceIte, vO_some, loadV_ptr, addrV_ptr, nilV_ptr, pickV_bool, ext2_0, ext2_1, unV_not, minV_int, binX_int, binX_str, binV_eql, binV_neq, binV_lss, binV_leq, binV_gtr, binV_geq, binV_add, binV_sub, binV_mul, add_at, Int.toNat_natCast, Nat.zero_add, Nat.add_zero, List.map_cons, List.map_nil, List.toList_toArray, Option.map_some, Option.map_none, true_and, Bool.false_eq_true, r24]
      refine hround (n - (k + 1)) _ _ (by omega) ⟨k + 1, rfl, by omega, grown_trans hg (grown_set w' _ _ _), (by simp only [upd_apply, Nat.reduceEqDiff, ↓reduceIte, Vc.put_some, ev_tmp, ev_const, Int.natCast_add, Int.natCast_one, Int.natCast_zero, r0] <;> rfl), (by simp only [upd_apply, Nat.reduceEqDiff, ↓reduceIte, Vc.put_some, ev_tmp, ev_const, Int.natCast_add, Int.natCast_one, Int.natCast_zero, r5] <;> rfl), (by simp only [upd_apply, Nat.reduceEqDiff, ↓reduceIte, Vc.put_some, ev_tmp, ev_const, Int.natCast_add, Int.natCast_one, Int.natCast_zero, r23] <;> rfl), (by simp only [upd_apply, Nat.reduceEqDiff, ↓reduceIte, Vc.put_some, ev_tmp, ev_const, Int.natCast_add, Int.natCast_one, Int.natCast_zero] <;> rfl), fun i => if i = k then r else F' i, (hF'.set _ _).congr (fun i hi => by show _ = Value.float .f64 (if i = k then r else F' i); split <;> rfl), fun i hi => ?_, fun i hi => ?_⟩
      · show V2 (if i = k then r else F' i) _
        by_cases e : i = k
        · rw [if_pos e, e]; exact hvr
        · rw [if_neg e]; exact hd1 i (by omega)
      · show (if i = k then r else F' i) = F i
        rw [if_neg (by omega)]; exact hd2 i (by omega)
    · have hke : k = n := by omega
      subst hke
      exact G.exit (G.exitC hx) (hpost _ _ ⟨hg, F', hF', hd1⟩)
  · rintro ρ' w' ⟨hg, F', hF', hd1⟩
    exact G.end0 Try.func26 rfl ⟨F', rfl, hF', hd1, hg⟩
end Go.Proofs.Qxb6603720a
