/-
  THE OPERATIONS, in forms that 'simp only' can run: 'vc' over a region's list of operations. Any program.
-/
import Derived.Test.Qxb6603720aVc
import Derived.Laws.Entries
import Derived.Laws.Slices
import Derived.Laws.Append
import Derived.Laws.FloatArith
set_option linter.unusedVariables false
set_option linter.unusedSimpArgs false
namespace Go.Vc
open Go

/-- a type whose variables are one cell, not a struct, not an array -/
def scalarB (P : Program) (t : TypeId) : Bool :=
  match P.underlying t, P.info? t with
  | some (.struct _), _ => false
  | some (.array _ _), _ => false
  | some _, some i => i.size == 1
  | _, _ => false
def elemB (P : Program) (t : TypeId) : Option TypeId :=
  match P.underlying t with
  | some (.slice e) => match P.info? e with
    | some i => if i.size = 1 ∧ i.zero.isSome = true then some e else none
    | none => none
  | _ => none

def oW (x : Option Value) (K : Value → Prop) : Prop := match x with
  | some v => K v
  | none => False
def pickV : Value → Value → Value → Option Value
  | .bool t, a, b => some (if t then a else b)
  | _, _, _ => none
def loadV (w : World) : Value → Option Value
  | .pointer (some p) => w.cell? p
  | _ => none
def atomB : Value → Bool
  | .agg _ => false
  | .tuple _ => false
  | _ => true
def addrV : Value → Option Addr
  | .pointer (some p) => some p
  | _ => none
def stF (w : World) (a : Option Addr) (x : Value) (K : World → Prop) : Prop := match a with
  | some p => ((w.cell? p).isSome = true ∧ w.frozen? p = false ∧ atomB x = true) ∧ K (w.setCell p x)
  | none => False
def binV (op : BinOp) (x y : Value) : Option Value := match op, x, y with
  | .add, .int k a, .int k' b => if k = k' then some (.int k (k.wrap (a + b))) else none
  | .sub, .int k a, .int k' b => if k = k' then some (.int k (k.wrap (a - b))) else none
  | .mul, .int k a, .int k' b => if k = k' then some (.int k (k.wrap (a * b))) else none
  | .quo, .int k a, .int k' b => if k = k' ∧ b ≠ 0 then some (.int k (k.wrap (a.tdiv b))) else none
  | .rem, .int k a, .int k' b => if k = k' ∧ b ≠ 0 then some (.int k (a.tmod b)) else none
  | .eql, .int k a, .int k' b => if k = k' then some (.bool (a == b)) else none
  | .neq, .int k a, .int k' b => if k = k' then some (.bool (a != b)) else none
  | .lss, .int k a, .int k' b => if k = k' then some (.bool (decide (a < b))) else none
  | .leq, .int k a, .int k' b => if k = k' then some (.bool (decide (a ≤ b))) else none
  | .gtr, .int k a, .int k' b => if k = k' then some (.bool (decide (b < a))) else none
  | .geq, .int k a, .int k' b => if k = k' then some (.bool (decide (b ≤ a))) else none
  | .eql, .string a, .string b => some (.bool (a.toList == b.toList))
  | .neq, .string a, .string b => some (.bool (!(a.toList == b.toList)))
  | .lss, .string a, .string b => some (.bool (Op.bytesLess a.toList b.toList))
  | .shr, .int .u64 a, .int _ b => if 0 ≤ b ∧ b ≤ 64 then some (.int .u64 (a / 2 ^ b.toNat)) else none
  | .add, .float .f64 a, .float .f64 b => (Ieee.double.add a b).map (fun r => .float .f64 r)
  | .sub, .float .f64 a, .float .f64 b => (Ieee.double.sub a b).map (fun r => .float .f64 r)
  | .quo, .float .f64 a, .float .f64 b => (Ieee.double.div a b).map (fun r => .float .f64 r)
  | .neq, .float .f64 a, .float .f64 b => some (.bool (Ieee.double.order a b != some .eq))
  | .leq, .float .f64 a, .float .f64 b => some (.bool (Ieee.double.order a b == some .lt || Ieee.double.order a b == some .eq))
  | .geq, .float .f64 a, .float .f64 b => some (.bool (Ieee.double.order a b == some .gt || Ieee.double.order a b == some .eq))
  | _, _, _ => none
def sliceT (P : Program) (t : TypeId) : Bool := match P.underlying t with
  | some (.slice _) => true
  | _ => false
def boolT (P : Program) (t : TypeId) : Bool := match P.underlying t with
  | some .bool => true
  | _ => false
/-- .. and a slice against nil -/
def binX (P : Program) (op : BinOp) (t : TypeId) (x y : Value) : Option Value := match x, y with
  | .slice a _ _, .slice none _ _ => match op with
    | .eql => if sliceT P t = true then some (.bool a.isNone) else none
    | .neq => if sliceT P t = true then some (.bool a.isSome) else none
    | _ => none
  | .bool a, .bool b => match op with
    | .eql => if boolT P t = true then some (.bool (a == b)) else none
    | .neq => if boolT P t = true then some (.bool (a != b)) else none
    | _ => none
  | _, _ => binV op x y
def cvV (P : Program) (s d : TypeId) (x : Value) : Option Value := if (P.underlying s).isSome = true then (match P.underlying d, x with
  | some (.float .f64), .int _ n => some (.float .f64 (floatOfInt .f64 n))
  | some (.int k), .float .f64 b => (floatToIntVal .f64 b k).map (fun n => .int k n)
  | some (.int k), .int _ n => some (.int k (k.wrap n))
  | _, _ => none) else none
def unV (op : UnOp) (x : Value) : Option Value := match op, x with
  | .not, .bool b => some (.bool (!b))
  | _, _ => none
def idxV (P : Program) (t : TypeId) (x i : Value) : Option Value := match elemB P t, x, i with
  | some _, .slice (some a) len _, .int _ n => if 0 ≤ n ∧ n < len then some (.pointer (some (a.add n.toNat))) else none
  | _, _, _ => none
def fldV (P : Program) (s : TypeId) (j : Nat) (x : Value) : Option Value := match P.underlying s, x with
  | some (.struct fields), .pointer (some a) => match fields[j]? with
    | some fd => match P.info? fd.type with
      | some i => if i.size ≠ 0 then some (.pointer (some (a.add fd.offset))) else none
      | none => none
    | none => none
  | _, _ => none
def nilV : Value → Option Value
  | .pointer (some a) => some (.pointer (some a))
  | _ => none
def extV (x : Value) (j : Nat) : Option Value := match x with
  | .tuple vs => vs[j]?
  | _ => none
def lenV (P : Program) (t : TypeId) (x : Value) : Option Value := match P.underlying t, x with
  | some .string, .string s => some (.int .i64 s.size)
  | some (.slice _), .slice _ n _ => some (.int .i64 n)
  | _, _ => none
def minV (x y : Value) : Option Value := match x, y with
  | .int k a, .int _ b => some (.int k (if b < a then b else a))
  | _, _ => none
/-- 'x[lo:hi]' on a slice, each bound there or not. -/
def slV (P : Program) (t : TypeId) (x : Value) (lo hi : Option Value) : Option Value := match elemB P t, x, lo, hi with
  | some _, .slice a len cap, none, some (.int _ h) => if 0 ≤ h ∧ h ≤ cap then some (.slice a h.toNat cap) else none
  | some _, .slice a len cap, some (.int _ l), none => if 0 ≤ l ∧ l ≤ len ∧ len ≤ cap then some (.slice (if cap = l.toNat then a else a.map (·.add l.toNat)) (len - l.toNat) (cap - l.toNat)) else none
  | _, _, _, _ => none
def zeroOf (P : Program) (t : TypeId) : Option Value := match P.info? t with
  | some i => i.zero
  | none => none
def allocF (P : Program) (z : Option Value) (t : TypeId) (w : World) (K : Value → World → Prop) : Prop := match z with
  | some z => K (.pointer (some ⟨w.heap.size, 0, none⟩)) (w.alloc (.cells z.cells t))
  | none => False
/-- a slice literal of one element of one cell, or of none -/
def litF (e : Option TypeId) (x : Option Value) (w : World) (K : Value → World → Prop) : Prop := match e, x with
  | some e, some x => atomB x = true ∧ K (.slice (some ⟨w.heap.size, 0, none⟩) 1 1) (w.alloc (.cells #[x] e))
  | some e, none => K (.slice (some ⟨w.heap.size, 0, none⟩) 0 0) (w.alloc (.cells #[] e))
  | none, _ => False

def bsF (P : Program) (o : Oper) (ρ : Env) (w : World) (K : Value → World → Prop) (t : TypeId) (len : Nat) (parts : List (Nat × Operand)) : Prop := match len, parts with
  | 1, [(0, x)] => litF (elemB P t) (some (ev ρ x)) w K
  | 0, [] => litF (elemB P t) none w K
  | _, _ => opW P o ρ w K
def callF (P : Program) (o : Oper) (ρ : Env) (w : World) (K : Value → World → Prop) (c : Callee) (args : List Operand) (ts : List TypeId) : Prop := match c, args, ts with
  | .builtin .len, [x], [t] => oW (lenV P t (ev ρ x)) (fun v => K v w)
  | .builtin .min, [x, y], _ => oW (minV (ev ρ x) (ev ρ y)) (fun v => K v w)
  | _, _, _ => opW P o ρ w K
/-- WHAT AN OPERATION DOES, in friendly forms; the rest exactly as the model has it. -/
def opF (P : Program) (o : Oper) (ρ : Env) (w : World) (K : Value → World → Prop) : Prop :=
  match o.op with
  | .move x => K (ev ρ x) w
  | .assign x => K (ev ρ x) w
  | .pick c a b => oW (pickV (ev ρ c) (ev ρ a) (ev ρ b)) (fun v => K v w)
  | .load t a => scalarB P t = true ∧ oW (loadV w (ev ρ a)) (fun v => K v w)
  | .store t a x => scalarB P t = true ∧ stF w (addrV (ev ρ a)) (ev ρ x) (fun w' => K undef w')
  | .binOp op t x y _ => oW (binX P op t (ev ρ x) (ev ρ y)) (fun v => K v w)
  | .unOp op _ x => oW (unV op (ev ρ x)) (fun v => K v w)
  | .convert s d x => oW (cvV P s d (ev ρ x)) (fun v => K v w)
  | .indexAddr t x i => oW (idxV P t (ev ρ x) (ev ρ i)) (fun v => K v w)
  | .fieldAddr s x j => oW (fldV P s j (ev ρ x)) (fun v => K v w)
  | .nilCheck x => oW (nilV (ev ρ x)) (fun v => K v w)
  | .extract x j => oW (extV (ev ρ x) j) (fun v => K v w)
  | .makeFunc fn first captured => K (.func fn (first.map (ev ρ)) (captured.map (ev ρ))) w
  | .alloc t => allocF P (zeroOf P t) t w K
  | .box t x => K (.pointer (some ⟨w.heap.size, 0, none⟩)) (w.alloc (.cells (ev ρ x).cells t))
  | .slice t x lo hi none => oW (slV P t (ev ρ x) (lo.map (ev ρ)) (hi.map (ev ρ))) (fun v => K v w)
  | .buildSlice t len parts => bsF P o ρ w K t len parts.toList
  | .call c => callF P o ρ w K c.callee c.args.toList c.argTypes.toList
  | _ => opW P o ρ w K

theorem elemB_spec {P : Program} {t e : TypeId} (h : elemB P t = some e) : P.underlying t = some (.slice e) ∧ ∃ i, P.info? e = some i ∧ i.size = 1 ∧ ∃ z, i.zero = some z := by
  unfold elemB at h
  split at h
  · rename_i e' he
    split at h
    · rename_i i hi
      split at h
      · rename_i hs
        simp at h; subst h
        exact ⟨he, i, hi, hs.1, Option.isSome_iff_exists.1 hs.2⟩
      · cases h
    · cases h
  · cases h
theorem scalarB_spec {P : Program} {t : TypeId} (h : scalarB P t = true) : ∃ d i, P.underlying t = some d ∧ (∀ fs, d ≠ .struct fs) ∧ (∀ n e, d ≠ .array n e) ∧ P.info? t = some i ∧ i.size = 1 := by
  unfold scalarB at h
  split at h
  · cases h
  · cases h
  · rename_i d i h1 h2 hd hi
    refine ⟨d, i, hd, fun fs e => ?_, fun n e e' => ?_, hi, by simpa using h⟩
    · subst e; exact h1 fs rfl
    · subst e'; exact h2 n e rfl
  · cases h

section
variable {P : Program} {w : World}
theorem run_loadAt {t : TypeId} {p : Addr} {v : Value} (ht : scalarB P t = true) (hc : w.cell? p = some v) : (Instr.loadAt t (.pointer (some p))).run P w = .ok v w := by
  obtain ⟨d, i, hd, h1, h2, hi, hs⟩ := scalarB_spec ht
  cases d <;> simp [Instr.loadAt, Instr.sureAddr, loadVar, isAgg, underlying, hd, hc] <;> first | exact absurd rfl (h1 _) | exact absurd rfl (h2 _ _)
theorem run_storeAt {t : TypeId} {p : Addr} {x : Value} (ht : scalarB P t = true) (hx : atomB x = true) (hc : (w.cell? p).isSome = true) (hf : w.frozen? p = false) :
    (Instr.storeAt t (.pointer (some p)) x).run P w = .ok () (w.setCell p x) := by
  obtain ⟨d, i, hd, h1, h2, hi, hs⟩ := scalarB_spec ht
  obtain ⟨v, hv⟩ := Option.isSome_iff_exists.1 hc
  have hp : p.add 0 = p := by simp [Addr.add]
  cases x <;> first | (simp [atomB] at hx; done) | skip
  all_goals simp [Instr.storeAt, Instr.sureAddr, storeVar, Value.cells, sizeOf, typeInfo, hi, hs, storeCells, store, Sem.run, hp, hv, hf]

theorem run_binV {op : BinOp} {t : TypeId} {ox oy : Operand} {x y v : Value} (h : binV op x y = some v) : (do eqGuard op t ox oy x y; binOp op t x y : Sem Value).run P w = .ok v w := by
  unfold binV at h
  split at h
  all_goals first
    | (cases h; done)
    | (simp only [Option.some.injEq] at h; subst h; simp [go_sem, binOp, Op.stringOp]; done)
    | (simp only [Option.some.injEq] at h; subst h; simp [go_sem, binOp, Op.floatCmp, FloatKind.format]; done)
    | (obtain ⟨r, hr, rfl⟩ := Option.map_eq_some_iff.1 h; simp [go_sem, binOp, Op.floatArith, FloatKind.format, hr]; done)
    | (simp only [Option.ite_none_right_eq_some, Option.some.injEq] at h
       obtain ⟨hk, rfl⟩ := h
       first
         | (subst hk; simp [go_sem, Op.intArith, Op.intCmp]; done)
         | (obtain ⟨rfl, hb⟩ := hk; simp [go_sem, Op.intDiv, hb]; done)
         | (obtain ⟨h1, h2⟩ := hk; simp [go_sem, h1, h2]; done))

theorem run_binX {op : BinOp} {t : TypeId} {ox oy : Operand} {x y v : Value} (h : binX P op t x y = some v) : (do eqGuard op t ox oy x y; binOp op t x y : Sem Value).run P w = .ok v w := by
  unfold binX at h
  split at h
  · rename_i a n c m d
    have hs : ∀ e, P.underlying t = some (.slice e) → (Op.equal t (.slice a n c) (.slice none m d)).run P w = .ok a.isNone w := by
      intro e he
      show (Op.equalIn (9999 + 1) t (.slice a n c) (.slice none m d)).run P w = _
      rw [Op.equalIn]
      cases a <;> simp [underlying, he]
    have ht : sliceT P t = true → ∃ e, P.underlying t = some (.slice e) := by
      intro h
      unfold sliceT at h
      split at h
      · rename_i e he; exact ⟨e, he⟩
      · cases h
    split at h
    · split at h
      · rename_i hst
        obtain ⟨e, he⟩ := ht hst
        simp at h; subst h
        simp [go_sem, binOp, hs e he]
      · cases h
    · split at h
      · rename_i hst
        obtain ⟨e, he⟩ := ht hst
        simp at h; subst h
        cases a <;> simp [go_sem, binOp, hs e he]
      · cases h
    · cases h
  · rename_i a b
    have ht : boolT P t = true → P.underlying t = some .bool := by
      intro h
      unfold boolT at h
      split at h
      · assumption
      · cases h
    have hs : P.underlying t = some .bool → (Op.equal t (.bool a) (.bool b)).run P w = .ok (a == b) w := by
      intro he
      show (Op.equalIn (9999 + 1) t (.bool a) (.bool b)).run P w = _
      rw [Op.equalIn]
      simp [underlying, he]
    split at h
    · split at h
      · rename_i hst
        simp at h; subst h
        simp [go_sem, binOp, hs (ht hst)]
      · cases h
    · split at h
      · rename_i hst
        simp only [Option.some.injEq] at h; subst h
        simp [go_sem, binOp, hs (ht hst), bne]
      · cases h
    · cases h
  · exact run_binV h

theorem opW_of_opF {o : Oper} {ρ : Env} {K : Value → World → Prop} (h : opF P o ρ w K) : opW P o ρ w K := by
  obtain ⟨dst, op, ty, pos, aft, gd⟩ := o
  cases op
  case move x => exact h
  case assign x => exact h
  case pick c a b =>
    simp only [opF] at h
    simp only [opW, execOp]
    cases hc : ev ρ c <;> simp [hc, pickV, oW] at h
    simpa [asBool] using h
  case load t a =>
    simp only [opF] at h
    obtain ⟨ht, h⟩ := h
    simp only [opW, execOp]
    cases ha : ev ρ a <;> simp only [ha, loadV, oW] at h
    rename_i p
    cases p with
    | none => simp at h
    | some p =>
      simp only at h
      cases hv : w.cell? p with
      | none => simp [hv] at h
      | some v => simp only [Sem.run_bind, run_loadAt ht hv]; simpa [hv] using h
  case store t a x =>
    simp only [opF] at h
    obtain ⟨ht, h⟩ := h
    simp only [opW, execOp]
    cases ha : ev ρ a <;> simp only [ha, addrV, stF] at h
    rename_i p
    cases p with
    | none => simp at h
    | some p =>
      simp only at h
      obtain ⟨⟨h1, h2, h3⟩, h4⟩ := h
      simp only [Sem.run_bind, run_storeAt ht h3 h1 h2]
      simpa using h4
  case binOp bop t x y yt =>
    simp only [opF] at h
    simp only [opW, execOp]
    cases hv : binX P bop t (ev ρ x) (ev ρ y) with
    | none => simp [hv, oW] at h
    | some v =>
      simp only [hv, oW] at h
      have hr := run_binX (P := P) (w := w) (t := t) (ox := x) (oy := y) hv
      simp only [Sem.run_bind] at hr ⊢
      simpa [hr] using h
  case unOp uop t x =>
    simp only [opF] at h
    simp only [opW, execOp]
    generalize hx : ev ρ x = u at *
    cases uop <;> cases u <;> simp [unV, oW] at h
    simpa [Op.unary] using h
  case indexAddr t x i =>
    simp only [opF] at h
    simp only [opW, execOp]
    cases he : elemB P t with
    | none => simp [idxV, he, oW] at h
    | some e =>
      obtain ⟨hu, inf, hi, hs, z, hz⟩ := elemB_spec he
      generalize hx : ev ρ x = u at *
      generalize hy : ev ρ i = v at *
      cases u <;> cases v <;> simp [idxV, he, oW] at h
      rename_i a len cap q m
      cases a with
      | none => simp at h
      | some a =>
        simp at h
        split at h
        · rename_i v' hv
          split at hv
          · rename_i hb
            simp at hv; subst hv
            simpa [Instr.indexAt, asIntOf, underlying, hu, hb, sizeOf, typeInfo, hi, hs] using h
          · cases hv
        · exact h.elim
  case fieldAddr s x j =>
    simp only [opF] at h
    simp only [opW, execOp]
    generalize hx : ev ρ x = u at *
    unfold fldV at h
    split at h
    · rename_i fields a hf
      split at h
      · rename_i fd hfd
        split at h
        · rename_i i hi
          split at h
          · rename_i hsz
            simp only [oW] at h
            simpa [Instr.fieldAt, Instr.sureAddr, underlying, hf, hfd, fieldPlace, sizeOf, typeInfo, hi, hsz] using h
          · exact h.elim
        · exact h.elim
      · exact h.elim
    · exact h.elim
  case nilCheck x =>
    simp only [opF] at h
    simp only [opW, execOp]
    generalize hx : ev ρ x = u at *
    unfold nilV at h
    split at h
    · simpa [oW] using h
    · exact h.elim
  case extract x j =>
    simp only [opF] at h
    simp only [opW, execOp]
    generalize hx : ev ρ x = u at *
    cases u <;> simp [extV, oW] at h
    rename_i vs
    cases hv : vs[j]? with
    | none => simp [hv] at h
    | some v => simpa [Instr.extract, hv] using h
  case makeFunc fn first captured => exact h
  case alloc t =>
    simp only [opF] at h
    simp only [opW, execOp]
    unfold zeroOf at h
    cases hi : P.info? t with
    | none => simp [hi, allocF] at h
    | some i =>
      cases hz : i.zero with
      | none => simp [hi, hz, allocF] at h
      | some z =>
        simp only [hi, hz, allocF] at h
        simpa [Instr.alloc, zeroValue, typeInfo, hi, hz, newVar, newRow] using h
  case box t x =>
    simp only [opF] at h
    simpa [opW, execOp, Instr.box, newVar, newRow] using h
  case slice t x lo hi mx =>
    cases mx with
    | some m => exact h
    | none =>
      simp only [opF] at h
      cases he : elemB P t with
      | none => simp [slV, he, oW] at h
      | some e =>
        obtain ⟨hu, inf, hi', hs, z, hz⟩ := elemB_spec he
        simp only [opW, execOp]
        generalize hx : ev ρ x = u at *
        generalize hl : lo.map (ev ρ) = l at *
        generalize hh : hi.map (ev ρ) = hv at *
        unfold slV at h
        split at h
        · rename_i a len cap q m _
          split at h
          · rename_i hb
            simp only [oW] at h
            simpa [Instr.sliceAt, Instr.slice, underlying, hu, Instr.sliceBounds, Instr.sliceBound, asIntOf, hb, sizeOf, typeInfo, hi', hs, Addr.add_zero'] using h
          · exact h.elim
        · rename_i a len cap q m _
          split at h
          · rename_i hb
            simp only [oW] at h
            simpa [Instr.sliceAt, Instr.slice, underlying, hu, Instr.sliceBounds, Instr.sliceBound, asIntOf, hb, sizeOf, typeInfo, hi', hs, Addr.add_zero'] using h
          · exact h.elim
        · exact h.elim
  case buildSlice t len parts =>
    simp only [opF] at h
    unfold bsF at h
    split at h
    · rename_i x hp
      cases he : elemB P t with
      | none => simp [he, litF] at h
      | some e =>
        obtain ⟨hu, inf, hi', hs, z, hz⟩ := elemB_spec he
        simp only [he, litF] at h
        obtain ⟨hx, h⟩ := h
        obtain rfl : parts = #[(0, x)] := by cases parts; simp at hp; rw [hp]
        have hc : (ev ρ x).cells = #[ev ρ x] := by generalize ev ρ x = v at hx; cases v <;> first | rfl | simp [atomB] at hx
        have er : ∀ g : Nat → Value, (Array.range 1).map g = #[g 0] := fun g => by
          have h1 : Array.range 1 = #[0] := by decide
          rw [h1]; simp
        simp only [opW, execOp]
        simpa [Instr.buildSlice, underlying, hu, sizeOf, typeInfo, hi', hs, zeroValue, hz, Instr.fill, hc, er, newRow] using h
    · rename_i hp
      cases he : elemB P t with
      | none => simp [he, litF] at h
      | some e =>
        obtain ⟨hu, inf, hi', hs, z, hz⟩ := elemB_spec he
        simp only [he, litF] at h
        obtain rfl : parts = #[] := by cases parts; simp at hp; rw [hp]
        simpa [opW, execOp, Instr.buildSlice, underlying, hu, sizeOf, typeInfo, hi', hs, Instr.fill, newRow, Array.range_zero'] using h
    · exact h
  case call c =>
    simp only [opF] at h
    unfold callF at h
    split at h
    · rename_i x t hc ha ht
      obtain ⟨cc, ca, ct⟩ := c
      simp only at hc ha ht
      subst hc
      obtain rfl : ca = #[x] := by cases ca; simp at ha; rw [ha]
      obtain rfl : ct = #[t] := by cases ct; simp at ht; rw [ht]
      unfold lenV at h
      split at h
      · rename_i s hu hx
        simpa [opW, execOp, resolve, invoke, builtin, Builtin.len_, underlying, hu, hx, goInt, oW] using h
      · rename_i e a m cp hu hx
        simpa [opW, execOp, resolve, invoke, builtin, Builtin.len_, underlying, hu, hx, goInt, oW] using h
      · exact h.elim
    · rename_i x y hc ha
      obtain ⟨cc, ca, ct⟩ := c
      simp only at hc ha
      subst hc
      obtain rfl : ca = #[x, y] := by cases ca; simp at ha; rw [ha]
      unfold minV at h
      split at h
      · rename_i hx hy
        simpa [opW, execOp, resolve, invoke, builtin, Builtin.min_, Builtin.min2, hx, hy, oW] using h
      · exact h.elim
    · exact h
  case convert s d x =>
    simp only [opF] at h
    simp only [opW, execOp]
    unfold cvV at h
    split at h
    · rename_i hs
      split at h
      · rename_i n hd hx
        simp only [oW] at h
        rw [hx]
        simpa [run_convert_int_float _ s d _ _ _ hs hd] using h
      · rename_i k b hd hx
        cases hf : floatToIntVal .f64 b k with
        | none => rw [hf] at h; exact h.elim
        | some n =>
          rw [hf] at h
          simp only [Option.map_some, oW] at h
          rw [hx]
          simpa [run_convert_float_int _ s d _ _ _ _ hs hd hf] using h
      · rename_i k q n hd hx
        simp only [oW] at h
        have hk : P.intKind d = k := by simp [Program.intKind, hd]
        rw [hx]
        have := run_convert_int w s d q n hs (by rw [hk]; exact hd)
        rw [hk] at this
        simpa [this] using h
      · exact h.elim
    · exact h.elim
  all_goals exact h

/-! ### The list of a region's operations -/
def vc (P : Program) (ds : List (Option Nat)) (K : Env → World → Prop) : List Oper → Env → World → Prop
  | [], ρ, w => K ρ w
  | o :: os, ρ, w => if gok ds ρ o.guard = true then opF P o ρ w (fun v w' => vc P ds K os (put ρ o.dst v) w') else vc P ds K os (put ρ o.dst undef) w

theorem opW_mono {o : Oper} {ρ : Env} {w : World} {K K' : Value → World → Prop} (hK : ∀ v w, K v w → K' v w) (h : opW P o ρ w K) : opW P o ρ w K' := by
  unfold opW at *
  generalize (execOp (ev ρ) o).run P w = r at *
  cases r with
  | ok x w' =>
    cases x <;> simp only at h ⊢
    case value v => exact hK _ _ h
    case skip => exact hK _ _ h
    case enter f args => exact Calls.mono h (fun e w'' ⟨v, he, hk⟩ => ⟨v, he, hK _ _ hk⟩)
  | halt x w' => exact h

theorem vcL_of_vc {ds : List (Option Nat)} {K : Env → World → Prop} : ∀ (l : List Oper) (ρ : Env) (w : World), vc P ds K l ρ w → vcL P ds K l ρ w
  | [], ρ, w, h => h
  | o :: os, ρ, w, h => by
    simp only [vc] at h
    simp only [vcL]
    split
    · rename_i hg
      rw [if_pos hg] at h
      exact opW_mono (fun v w' hk => vcL_of_vc os _ _ hk) (opW_of_opF h)
    · rename_i hg
      rw [if_neg hg] at h
      exact vcL_of_vc os _ _ h
end

section
variable {P : Program} {fn : Func} {f : FuncId} {n : Nat} {R : Ending → World → Prop} {k : List Item} {ρ : Env} {w : World}
theorem G.rg {id : Nat} {ops : Array Oper} (hd : (ops.toList.all (dstB n)) = true) (h : vc P (ops.toList.map (·.dst)) (fun ρ' w' => G P fn f n R k ρ' w') ops.toList ρ w) :
    G P fn f n R (.code (.region id ops false) :: k) ρ w := G.reg hd (vcL_of_vc _ _ _ h)
theorem G.sr {id : Nat} {ops : Array Oper} {y : Code} (hd : (ops.toList.all (dstB n)) = true) (h : vc P (ops.toList.map (·.dst)) (fun ρ' w' => G P fn f n R (.code y :: k) ρ' w') ops.toList ρ w) :
    G P fn f n R (.code (.seq (.region id ops false) y) :: k) ρ w := G.seq (G.rg hd h)
end

/-! ### The equations by which 'simp only' runs a region -/
section
variable {P : Program} {ds : List (Option Nat)} {K : Env → World → Prop} {os : List Oper} {ρ : Env} {w : World} {d : Option Nat} {ty : TypeId} {pos : String} {aft : Array Edge}
/-- an operation that yields a value and turns nothing -/
def vO (P : Program) (ds : List (Option Nat)) (K : Env → World → Prop) (os : List Oper) (ρ : Env) (w : World) (d : Option Nat) (o : Option Value) : Prop := oW o (fun v => vc P ds K os (put ρ d v) w)
def stO (P : Program) (ds : List (Option Nat)) (K : Env → World → Prop) (os : List Oper) (ρ : Env) (w : World) (d : Option Nat) (a : Option Addr) (x : Value) : Prop := stF w a x (fun w' => vc P ds K os (put ρ d undef) w')
theorem vO_some (v : Value) : vO P ds K os ρ w d (some v) = vc P ds K os (put ρ d v) w := propext ⟨fun h => h, fun h => h⟩
theorem stO_ok {p : Addr} {x : Value} (h1 : (w.cell? p).isSome = true) (h2 : w.frozen? p = false) (h3 : atomB x = true) : stO P ds K os ρ w d (some p) x = vc P ds K os (put ρ d undef) (w.setCell p x) := by
  simp [stO, stF, h1, h2, h3]
theorem vc_nil : vc P ds K [] ρ w = K ρ w := propext ⟨fun h => h, fun h => h⟩
theorem vc_move (x : Operand) : vc P ds K (⟨d, .move x, ty, pos, aft, none⟩ :: os) ρ w = vc P ds K os (put ρ d (ev ρ x)) w := propext ⟨fun h => h, fun h => h⟩
theorem vc_assign (x : Operand) : vc P ds K (⟨d, .assign x, ty, pos, aft, none⟩ :: os) ρ w = vc P ds K os (put ρ d (ev ρ x)) w := propext ⟨fun h => h, fun h => h⟩
theorem vc_pick (c a b : Operand) : vc P ds K (⟨d, .pick c a b, ty, pos, aft, none⟩ :: os) ρ w = vO P ds K os ρ w d (pickV (ev ρ c) (ev ρ a) (ev ρ b)) := propext ⟨fun h => h, fun h => h⟩
theorem vc_load (t : TypeId) (a : Operand) : vc P ds K (⟨d, .load t a, ty, pos, aft, none⟩ :: os) ρ w = (scalarB P t = true ∧ vO P ds K os ρ w d (loadV w (ev ρ a))) := propext ⟨fun h => h, fun h => h⟩
theorem vc_store (t : TypeId) (a x : Operand) : vc P ds K (⟨d, .store t a x, ty, pos, aft, none⟩ :: os) ρ w = (scalarB P t = true ∧ stO P ds K os ρ w d (addrV (ev ρ a)) (ev ρ x)) := propext ⟨fun h => h, fun h => h⟩
theorem vc_bin (op : BinOp) (t u : TypeId) (x y : Operand) : vc P ds K (⟨d, .binOp op t x y u, ty, pos, aft, none⟩ :: os) ρ w = vO P ds K os ρ w d (binX P op t (ev ρ x) (ev ρ y)) := propext ⟨fun h => h, fun h => h⟩
theorem vc_un (op : UnOp) (t : TypeId) (x : Operand) : vc P ds K (⟨d, .unOp op t x, ty, pos, aft, none⟩ :: os) ρ w = vO P ds K os ρ w d (unV op (ev ρ x)) := propext ⟨fun h => h, fun h => h⟩
theorem vc_conv (s t : TypeId) (x : Operand) : vc P ds K (⟨d, .convert s t x, ty, pos, aft, none⟩ :: os) ρ w = vO P ds K os ρ w d (cvV P s t (ev ρ x)) := propext ⟨fun h => h, fun h => h⟩
theorem vc_idx (t : TypeId) (x i : Operand) : vc P ds K (⟨d, .indexAddr t x i, ty, pos, aft, none⟩ :: os) ρ w = vO P ds K os ρ w d (idxV P t (ev ρ x) (ev ρ i)) := propext ⟨fun h => h, fun h => h⟩
theorem vc_fld (t : TypeId) (x : Operand) (j : Nat) : vc P ds K (⟨d, .fieldAddr t x j, ty, pos, aft, none⟩ :: os) ρ w = vO P ds K os ρ w d (fldV P t j (ev ρ x)) := propext ⟨fun h => h, fun h => h⟩
theorem vc_nilc (x : Operand) : vc P ds K (⟨d, .nilCheck x, ty, pos, aft, none⟩ :: os) ρ w = vO P ds K os ρ w d (nilV (ev ρ x)) := propext ⟨fun h => h, fun h => h⟩
theorem vc_ext (x : Operand) (j : Nat) : vc P ds K (⟨d, .extract x j, ty, pos, aft, none⟩ :: os) ρ w = vO P ds K os ρ w d (extV (ev ρ x) j) := propext ⟨fun h => h, fun h => h⟩
theorem vc_slice (t : TypeId) (x : Operand) (lo hi : Option Operand) : vc P ds K (⟨d, .slice t x lo hi none, ty, pos, aft, none⟩ :: os) ρ w = vO P ds K os ρ w d (slV P t (ev ρ x) (lo.map (ev ρ)) (hi.map (ev ρ))) := propext ⟨fun h => h, fun h => h⟩
theorem vc_func (g : Fn) (a b : Array Operand) : vc P ds K (⟨d, .makeFunc g a b, ty, pos, aft, none⟩ :: os) ρ w = vc P ds K os (put ρ d (.func g (a.map (ev ρ)) (b.map (ev ρ)))) w := propext ⟨fun h => h, fun h => h⟩
theorem vc_alloc (t : TypeId) {z : Value} (hz : zeroOf P t = some z) : vc P ds K (⟨d, .alloc t, ty, pos, aft, none⟩ :: os) ρ w = vc P ds K os (put ρ d (.pointer (some ⟨w.heap.size, 0, none⟩))) (w.alloc (.cells z.cells t)) := by
  simp [vc, gok, opF, hz, allocF]
theorem vc_box (t : TypeId) (x : Operand) : vc P ds K (⟨d, .box t x, ty, pos, aft, none⟩ :: os) ρ w = vc P ds K os (put ρ d (.pointer (some ⟨w.heap.size, 0, none⟩))) (w.alloc (.cells (ev ρ x).cells t)) := propext ⟨fun h => h, fun h => h⟩
theorem vc_len (t : TypeId) (x : Operand) : vc P ds K (⟨d, .call ⟨.builtin .len, #[x], #[t]⟩, ty, pos, aft, none⟩ :: os) ρ w = vO P ds K os ρ w d (lenV P t (ev ρ x)) := propext ⟨fun h => h, fun h => h⟩
theorem vc_min (ts : Array TypeId) (x y : Operand) : vc P ds K (⟨d, .call ⟨.builtin .min, #[x, y], ts⟩, ty, pos, aft, none⟩ :: os) ρ w = vO P ds K os ρ w d (minV (ev ρ x) (ev ρ y)) := propext ⟨fun h => h, fun h => h⟩
theorem vc_lit1 (t : TypeId) {e : TypeId} (x : Operand) (he : elemB P t = some e) (hx : atomB (ev ρ x) = true) :
    vc P ds K (⟨d, .buildSlice t 1 #[(0, x)], ty, pos, aft, none⟩ :: os) ρ w = vc P ds K os (put ρ d (.slice (some ⟨w.heap.size, 0, none⟩) 1 1)) (w.alloc (.cells #[ev ρ x] e)) := by
  simp [vc, gok, opF, bsF, he, litF, hx]
theorem vc_lit0 (t : TypeId) {e : TypeId} (he : elemB P t = some e) :
    vc P ds K (⟨d, .buildSlice t 0 #[], ty, pos, aft, none⟩ :: os) ρ w = vc P ds K os (put ρ d (.slice (some ⟨w.heap.size, 0, none⟩) 0 0)) (w.alloc (.cells #[] e)) := by
  simp [vc, gok, opF, bsF, he, litF]
/-- a guarded operation -/
def isB (want : Bool) : Value → Bool
  | .bool b => b == want
  | _ => false
def gdO (P : Program) (ds : List (Option Nat)) (K : Env → World → Prop) (o : Oper) (os : List Oper) (ρ : Env) (w : World) (want : Bool) (v : Value) : Prop :=
  if isB want v = true then vc P ds K (o :: os) ρ w else vc P ds K os (put ρ o.dst undef) w

theorem vc_guard (op : Op) (j : Nat) (want : Bool) : vc P ds K (⟨d, op, ty, pos, aft, some (j, want)⟩ :: os) ρ w = gdO P ds K ⟨d, op, ty, pos, aft, none⟩ os ρ w want (gslot ds ρ j) := by
  have e : gok ds ρ (some (j, want)) = isB want (gslot ds ρ j) := by
    simp only [gok]
    generalize gslot ds ρ j = v
    cases v <;> rfl
  simp only [vc, gdO, e]
  rfl
theorem gdO_yes {o : Oper} {want : Bool} : gdO P ds K o os ρ w want (.bool want) = vc P ds K (o :: os) ρ w := by simp [gdO, isB]
theorem gdO_ft {o : Oper} : gdO P ds K o os ρ w false (.bool true) = vc P ds K os (put ρ o.dst undef) w := by simp [gdO, isB]
theorem gdO_tf {o : Oper} : gdO P ds K o os ρ w true (.bool false) = vc P ds K os (put ρ o.dst undef) w := by simp [gdO, isB]
theorem gdO_un {o : Oper} {want : Bool} : gdO P ds K o os ρ w want undef = vc P ds K os (put ρ o.dst undef) w := by simp [gdO, isB, undef]
theorem gslot_cons0 (x : Option Nat) (l : List (Option Nat)) : gslot (x :: l) ρ 0 = match x with | some d => ρ d | none => undef := by cases x <;> rfl
theorem gslot_consS (x : Option Nat) (l : List (Option Nat)) (j : Nat) : gslot (x :: l) ρ (j + 1) = gslot l ρ j := by simp [gslot]

/-- A CALL of a Go function, by its contract. -/
structure HasBody (P : Program) (f : FuncId) : Prop where
  out : ∃ fn, P.funcs[f]? = some fn ∧ (fn.name == "runtime.NumGoroutine") = false ∧ fn.body.isNone = false
theorem vc_call {f : FuncId} {fo : Operand} {args : Array Operand} {ts : Array TypeId} {first cap vs : Array Value} {R : Ending → World → Prop}
    (hb : HasBody P f) (hf : ev ρ fo = .func (.func f) first cap) (ha : (first ++ args.map (ev ρ)) ++ cap = vs) (hc : Calls P f vs w R)
    (h : ∀ e w', R e w' → ∃ v, e = .returned v ∧ vc P ds K os (put ρ d v) w') : vc P ds K (⟨d, .call ⟨.value fo, args, ts⟩, ty, pos, aft, none⟩ :: os) ρ w := by
  obtain ⟨fn, h1, h2, h3⟩ := hb.out
  have h2' : ¬ fn.name = "runtime.NumGoroutine" := by simpa using h2
  have h3' : ¬ fn.body = none := by intro e; simp [e] at h3
  simp only [vc, gok, if_true, opF, callF]
  subst ha
  simp [opW, execOp, resolve, hf, Deferred.ofValue, invoke, callFunc, h1, h2', h3']
  rw [← Array.append_assoc]
  exact hc.mono h
end

/-! ### values -/
theorem loadV_ptr (w : World) (p : Addr) : loadV w (.pointer (some p)) = w.cell? p := rfl
theorem addrV_ptr (p : Addr) : addrV (.pointer (some p)) = some p := rfl
theorem nilV_ptr (p : Addr) : nilV (.pointer (some p)) = some (.pointer (some p)) := rfl
theorem extV_tup (vs : Array Value) (j : Nat) : extV (.tuple vs) j = vs[j]? := rfl
theorem ext2_0 (a b : Value) : extV (.tuple #[a, b]) 0 = some a := rfl
theorem ext2_1 (a b : Value) : extV (.tuple #[a, b]) 1 = some b := rfl
theorem pickV_bool (t : Bool) (a b : Value) : pickV (.bool t) a b = some (if t then a else b) := rfl
theorem unV_not (b : Bool) : unV .not (.bool b) = some (.bool (!b)) := rfl
theorem minV_int (k k' : IntKind) (a b : Int) : minV (.int k a) (.int k' b) = some (.int k (if b < a then b else a)) := rfl
theorem binX_int {P : Program} {t : TypeId} (op : BinOp) (k : IntKind) (a : Int) (y : Value) : binX P op t (.int k a) y = binV op (.int k a) y := rfl
theorem binX_str {P : Program} {t : TypeId} (op : BinOp) (s : ByteArray) (y : Value) : binX P op t (.string s) y = binV op (.string s) y := rfl
theorem binX_nil {P : Program} {t : TypeId} (ht : sliceT P t = true) (a : Option Addr) (n c m d : Nat) : binX P .eql t (.slice a n c) (.slice none m d) = some (.bool a.isNone) := by simp [binX, ht]
theorem binX_nnil {P : Program} {t : TypeId} (ht : sliceT P t = true) (a : Option Addr) (n c m d : Nat) : binX P .neq t (.slice a n c) (.slice none m d) = some (.bool a.isSome) := by simp [binX, ht]
theorem binV_eql (k : IntKind) (a b : Int) : binV .eql (.int k a) (.int k b) = some (.bool (a == b)) := by simp [binV]
theorem binV_neq (k : IntKind) (a b : Int) : binV .neq (.int k a) (.int k b) = some (.bool (a != b)) := by simp [binV]
theorem binV_lss (k : IntKind) (a b : Int) : binV .lss (.int k a) (.int k b) = some (.bool (decide (a < b))) := by simp [binV]
theorem binV_leq (k : IntKind) (a b : Int) : binV .leq (.int k a) (.int k b) = some (.bool (decide (a ≤ b))) := by simp [binV]
theorem binV_gtr (k : IntKind) (a b : Int) : binV .gtr (.int k a) (.int k b) = some (.bool (decide (b < a))) := by simp [binV]
theorem binV_geq (k : IntKind) (a b : Int) : binV .geq (.int k a) (.int k b) = some (.bool (decide (b ≤ a))) := by simp [binV]
theorem binX_beql {P : Program} {t : TypeId} (ht : boolT P t = true) (a b : Bool) : binX P .eql t (.bool a) (.bool b) = some (.bool (a == b)) := by simp [binX, ht]
theorem binX_bneq {P : Program} {t : TypeId} (ht : boolT P t = true) (a b : Bool) : binX P .neq t (.bool a) (.bool b) = some (.bool (a != b)) := by simp [binX, ht]
theorem binV_seql (a b : ByteArray) : binV .eql (.string a) (.string b) = some (.bool (a.toList == b.toList)) := rfl
theorem binV_sneq (a b : ByteArray) : binV .neq (.string a) (.string b) = some (.bool (!(a.toList == b.toList))) := rfl
theorem binV_slss (a b : ByteArray) : binV .lss (.string a) (.string b) = some (.bool (Op.bytesLess a.toList b.toList)) := rfl
theorem binV_shr1 (k : IntKind) (a : Int) : binV .shr (.int .u64 a) (.int k 1) = some (.int .u64 (a / 2)) := by simp [binV]
theorem wrap_in (x : Int) (h1 : -9223372036854775808 ≤ x) (h2 : x ≤ 9223372036854775807) : IntKind.i64.wrap x = x := by rw [IntKind.wrap_i64]; omega
theorem binV_add (a b : Int) (h1 : -9223372036854775808 ≤ a + b) (h2 : a + b ≤ 9223372036854775807) : binV .add (.int .i64 a) (.int .i64 b) = some (.int .i64 (a + b)) := by simp only [binV, if_true, wrap_in _ h1 h2]
theorem binV_sub (a b : Int) (h1 : -9223372036854775808 ≤ a - b) (h2 : a - b ≤ 9223372036854775807) : binV .sub (.int .i64 a) (.int .i64 b) = some (.int .i64 (a - b)) := by simp only [binV, if_true, wrap_in _ h1 h2]
theorem binV_mul (a b : Int) (h1 : -9223372036854775808 ≤ a * b) (h2 : a * b ≤ 9223372036854775807) : binV .mul (.int .i64 a) (.int .i64 b) = some (.int .i64 (a * b)) := by simp only [binV, if_true, wrap_in _ h1 h2]
theorem idxV_in {P : Program} {t e : TypeId} (he : elemB P t = some e) (a : Addr) (len cap : Nat) (k : IntKind) (n : Int) (h1 : 0 ≤ n) (h2 : n < len) : idxV P t (.slice (some a) len cap) (.int k n) = some (.pointer (some (a.add n.toNat))) := by
  simp [idxV, he, h1, h2]
theorem lenV_str {P : Program} {t : TypeId} (h : P.underlying t = some .string) (s : ByteArray) : lenV P t (.string s) = some (.int .i64 s.size) := by simp [lenV, h]
theorem lenV_slice {P : Program} {t e : TypeId} (h : P.underlying t = some (.slice e)) (a : Option Addr) (len cap : Nat) : lenV P t (.slice a len cap) = some (.int .i64 len) := by simp [lenV, h]
theorem slV_hi {P : Program} {t e : TypeId} (he : elemB P t = some e) (a : Option Addr) (len cap : Nat) (k : IntKind) (x : Int) (h1 : 0 ≤ x) (h2 : x ≤ cap) : slV P t (.slice a len cap) none (some (.int k x)) = some (.slice a x.toNat cap) := by
  simp [slV, he, h1, h2]
theorem slV_lo {P : Program} {t e : TypeId} (he : elemB P t = some e) (a : Option Addr) (len cap : Nat) (k : IntKind) (x : Int) (h1 : 0 ≤ x) (h2 : x ≤ len) (h3 : len ≤ cap) : slV P t (.slice a len cap) (some (.int k x)) none = some (.slice (if cap = x.toNat then a else a.map (·.add x.toNat)) (len - x.toNat) (cap - x.toNat)) := by
  simp [slV, he, h1, h2, h3]
theorem add_at (b o n : Nat) : Addr.add ⟨b, o, none⟩ n = ⟨b, o + n, none⟩ := Addr.add_lit b o n
end Go.Vc
