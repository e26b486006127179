/-
  A CALCULUS OF OUR OWN over the model's machine: 'G P f n R k ρ w': 'from the frame ρ (a function from slots to values) and the world w, with the items k still to do, the call of f ends as R says'.
  No Go text in sight: any program. Everything rests on the kit's Code.wp and its step lemmas.
-/
import Derived.Deep.LoopGhost
import Derived.StillTail
import Derived.Deep.OwnRows
import Derived.Below
set_option linter.unusedVariables false
set_option linter.unusedSimpArgs false
namespace Go.Vc
open Go

abbrev Env := Nat → Value
def upd (ρ : Env) (d : Nat) (v : Value) : Env := fun i => if i = d then v else ρ i
def put (ρ : Env) (d : Option Nat) (v : Value) : Env := match d with
  | some d => upd ρ d v
  | none => ρ
def ev (ρ : Env) : Operand → Value
  | .tmp t => ρ t
  | .const v => v
  | .global g => .pointer (some ⟨g, 0, none⟩)
  | .func f => .func (.func f) #[] #[]

theorem upd_apply (ρ : Env) (d : Nat) (v : Value) (i : Nat) : upd ρ d v i = if i = d then v else ρ i := rfl
theorem put_some (ρ : Env) (d : Nat) (v : Value) : put ρ (some d) v = upd ρ d v := rfl
theorem put_none (ρ : Env) (v : Value) : put ρ none v = ρ := rfl
theorem ev_tmp (ρ : Env) (t : Nat) : ev ρ (.tmp t) = ρ t := rfl
theorem ev_const (ρ : Env) (v : Value) : ev ρ (.const v) = v := rfl
theorem ev_func (ρ : Env) (f : FuncId) : ev ρ (.func f) = .func (.func f) #[] #[] := rfl

/-- The frame as the machine has it agrees with ρ. -/
structure Ag (n : Nat) (a : Act) (ρ : Env) : Prop where
  size : a.tmps.size = n
  defers : a.defers = []
  val : ∀ i, a.tmps.getD i undef = ρ i

theorem Ag.ev {n : Nat} {a : Act} {ρ : Env} (h : Ag n a ρ) : a.eval = ev ρ := by
  funext x
  cases x with
  | tmp t => exact h.val t
  | const v => rfl
  | global g => rfl
  | func f => rfl

def dstB (n : Nat) (o : Oper) : Bool := match o.dst with
  | some d => decide (d < n)
  | none => true

theorem Ag.put {n : Nat} {a : Act} {ρ : Env} (h : Ag n a ρ) {d : Option Nat} (hd : ∀ x, d = some x → x < n) (v : Value) : Ag n (a.put d v) (put ρ d v) := by
  cases d with
  | none => exact h
  | some d =>
    have hd := hd d rfl
    have hs := h.size
    refine ⟨by simpa [Act.put] using hs, h.defers, fun i => ?_⟩
    show (a.tmps.setIfInBounds d v).getD i undef = if i = d then v else ρ i
    by_cases hi : i = d
    · subst hi
      have : i < a.tmps.size := by omega
      simp [Array.getD_eq_getD_getElem?, this]
    · rw [if_neg hi, ← h.val i]
      have : ¬ d = i := fun e => hi e.symm
      simp [Array.getD_eq_getD_getElem?, Array.getElem?_setIfInBounds, this]

/-! ### Operations -/
/-- What an operation does, exactly as the model has it (no panic, no halt). -/
def opW (P : Program) (o : Oper) (ρ : Env) (w : World) (K : Value → World → Prop) : Prop :=
  match (execOp (ev ρ) o).run P w with
  | .ok (.value v) w' => K v w'
  | .ok .skip w' => K undef w'
  | .ok (.enter f args) w' => Calls P f args w' (fun e w'' => ∃ v, e = .returned v ∧ K v w'')
  | _ => False

/-- the slot that a guard looks at -/
def gslot (ds : List (Option Nat)) (ρ : Env) (j : Nat) : Value := match ds[j]? with
  | some (some d) => ρ d
  | _ => undef
def gok (ds : List (Option Nat)) (ρ : Env) : Option (Nat × Bool) → Bool
  | none => true
  | some (j, want) => match gslot ds ρ j with
    | .bool b => b == want
    | _ => false

def vcL (P : Program) (ds : List (Option Nat)) (K : Env → World → Prop) : List Oper → Env → World → Prop
  | [], ρ, w => K ρ w
  | o :: os, ρ, w => if gok ds ρ o.guard = true then opW P o ρ w (fun v w' => vcL P ds K os (put ρ o.dst v) w') else vcL P ds K os (put ρ o.dst undef) w

theorem wanted_eq {n : Nat} {a : Act} {ρ : Env} (h : Ag n a ρ) (ops : Array Oper) (o : Oper) : Region.wanted o (yielded ops a.tmps) = gok (ops.toList.map (·.dst)) ρ o.guard := by
  cases hg : o.guard with
  | none => simp [Region.wanted, hg, gok]
  | some jw =>
    obtain ⟨j, want⟩ := jw
    simp only [Region.wanted, hg, gok, gslot, yielded]
    have e : (List.map (fun x => x.dst) ops.toList)[j]? = (ops[j]?).map (·.dst) := by simp
    rw [e]
    cases hj : ops[j]? with
    | none => simp [undef]
    | some oj =>
      cases hdst : oj.dst with
      | none => simp [hdst, undef]
      | some d =>
        simp only [Option.bind_some, Option.map_some, hdst]
        have hv := h.val d
        rw [Array.getD_eq_getD_getElem?] at hv
        cases hd : a.tmps[d]? with
        | none => rw [hd] at hv; simp at hv; rw [← hv]; simp [undef]
        | some v => rw [hd] at hv; simp at hv; rw [← hv]; cases v <;> simp

theorem wp_of_opW {P : Program} {o : Oper} {n : Nat} {a : Act} {ρ : Env} {w : World} {K : Value → World → Prop} {next : Act → World → Prop} {Q : Exit → Act → World → Prop}
    (h : Ag n a ρ) (hn : ∀ v w', K v w' → next (a.put o.dst v) w') (ho : opW P o ρ w K) : o.wp P a w next Q := by
  unfold Oper.wp
  rw [h.ev]
  unfold opW at ho
  generalize (execOp (ev ρ) o).run P w = r at *
  cases r with
  | ok x w' =>
    cases x <;> simp only [Oper.upon] at ho ⊢
    case value v => exact hn _ _ ho
    case skip => exact hn _ _ ho
    case enter f args =>
      refine Calls.mono ho ?_
      rintro e w'' ⟨v, rfl, hk⟩
      exact hn _ _ hk
  | halt x w' => exact ho.elim

theorem wpList_of_vcL {P : Program} {n : Nat} {ops : Array Oper} {K : Env → World → Prop} {Q : Exit → Act → World → Prop}
    (hQ : ∀ a ρ w, Ag n a ρ → K ρ w → Q .normal a w) : ∀ (l : List Oper), (∀ o ∈ l, dstB n o = true) → ∀ (a : Act) (ρ : Env) (w : World), Ag n a ρ →
      vcL P (ops.toList.map (·.dst)) K l ρ w → wpList P ops Q l a w
  | [], _, a, ρ, w, hag, h => hQ a ρ w hag h
  | o :: l, hd, a, ρ, w, hag, h => by
    have hdo : ∀ x, o.dst = some x → x < n := by
      intro x hx
      have := hd o (by simp)
      simpa [dstB, hx] using this
    have ih := wpList_of_vcL (P := P) (ops := ops) (K := K) hQ l (fun o ho => hd o (by simp [ho]))
    simp only [wpList, wanted_eq hag]
    simp only [vcL] at h
    split
    · rename_i hg
      rw [if_pos hg] at h
      exact .inl (wp_of_opW hag (fun v w' hk => ih _ _ _ (hag.put hdo v) hk) h)
    · rename_i hg
      rw [if_neg hg] at h
      exact ih _ _ _ (hag.put hdo undef) h

/-! ### The machine's items -/
structure G (P : Program) (fn : Func) (f : FuncId) (n : Nat) (R : Ending → World → Prop) (k : List Item) (ρ : Env) (w : World) : Prop where
  out : ∀ a, Ag n a ρ → ∀ (b : Frame) (cs : List Frame), b.fn = f → b.kind = .normal →
    ∃ e w' fr, R e w' ∧ Comes P (lone (b.at a k) cs w) (lone fr cs w') e ∧ fr.fn = f ∧ fr.leaving P w' e

section
variable {P : Program} {fn : Func} {f : FuncId} {n : Nat} {R : Ending → World → Prop} {k : List Item} {ρ : Env} {w : World}

theorem G.of_step {k' : List Item} (hs : ∀ (b : Frame) (cs : List Frame) (a : Act), Ag n a ρ → step P (lone (b.at a k) cs w) = .next (lone (b.at a k') cs w))
    (h : G P fn f n R k' ρ w) : G P fn f n R k ρ w :=
  ⟨fun a ha b cs hb hk => let ⟨e, w', fr, hR, hc, h1, h2⟩ := h.out a ha b cs hb hk
    ⟨e, w', fr, hR, Comes.of_steps (.one (hs b cs a ha)) hc, h1, h2⟩⟩

theorem G.of_wp {c : Code} (h : ∀ a, Ag n a ρ → c.wp P (fun e a' w' => e = .normal ∧ ∃ ρ', Ag n a' ρ' ∧ G P fn f n R k ρ' w') a w) : G P fn f n R (.code c :: k) ρ w := by
  refine ⟨fun a ha b cs hb hk => ?_⟩
  obtain ⟨e, a', w', ⟨rfl, ρ', hag, hG⟩, harr⟩ := h a ha b k cs
  obtain ⟨e, w'', fr, hR, hc, h1, h2⟩ := hG.out a' hag b cs hb hk
  exact ⟨e, w'', fr, hR, Comes.of_steps harr hc, h1, h2⟩

theorem G.skip (h : G P fn f n R k ρ w) : G P fn f n R (.code .skip :: k) ρ w := G.of_step (fun _ _ _ _ => step_skip) h
theorem G.label {l : Nat} (h : G P fn f n R k ρ w) : G P fn f n R (.code (.label l) :: k) ρ w := G.of_step (fun _ _ _ _ => step_label) h
theorem G.inBlock {id : Nat} (h : G P fn f n R k ρ w) : G P fn f n R (.inBlock id :: k) ρ w := G.of_step (fun _ _ _ _ => step_inBlock) h
theorem G.seq {x y : Code} (h : G P fn f n R (.code x :: .code y :: k) ρ w) : G P fn f n R (.code (.seq x y) :: k) ρ w := G.of_step (fun _ _ _ _ => step_seq) h
theorem G.block {id : Nat} {c : Code} (h : G P fn f n R (.code c :: .inBlock id :: k) ρ w) : G P fn f n R (.code (.block id c) :: k) ρ w := G.of_step (fun _ _ _ _ => step_block) h
theorem G.inLoop {c : Code} (h : G P fn f n R (.code c :: .inLoop c :: k) ρ w) : G P fn f n R (.inLoop c :: k) ρ w := G.of_step (fun _ _ _ _ => step_inLoop) h
theorem G.loop1 {c : Code} (h : G P fn f n R (.code c :: .inLoop c :: k) ρ w) : G P fn f n R (.code (.loop c) :: k) ρ w := G.of_step (fun _ _ _ _ => step_loop) h
theorem G.exit {id : Nat} {k' : List Item} (hk : exitTo id k = some k') (h : G P fn f n R k' ρ w) : G P fn f n R (.code (.exit id) :: k) ρ w := G.of_step (fun _ _ _ _ => step_exit hk) h
theorem G.cond {c : Operand} {x y : Code} {t : Bool} (hc : ev ρ c = .bool t) (h : G P fn f n R (.code (if t then x else y) :: k) ρ w) : G P fn f n R (.code (.cond c x y) :: k) ρ w :=
  G.of_step (fun _ _ a ha => step_cond (by rw [ha.ev]; exact hc)) h
theorem G.condT {c : Operand} {x y : Code} (hc : ev ρ c = .bool true) (h : G P fn f n R (.code x :: k) ρ w) : G P fn f n R (.code (.cond c x y) :: k) ρ w := G.cond hc h
theorem G.condF {c : Operand} {x y : Code} (hc : ev ρ c = .bool false) (h : G P fn f n R (.code y :: k) ρ w) : G P fn f n R (.code (.cond c x y) :: k) ρ w := G.cond hc h
theorem G.condS {c : Operand} {x y : Code} {t : Bool} (hc : ev ρ c = .bool t) (h1 : t = true → G P fn f n R (.code x :: k) ρ w) (h2 : t = false → G P fn f n R (.code y :: k) ρ w) : G P fn f n R (.code (.cond c x y) :: k) ρ w := by
  cases t
  · exact G.condF hc (h2 rfl)
  · exact G.condT hc (h1 rfl)

theorem G.condD {c : Operand} {x y : Code} {p : Prop} [Decidable p] (hc : ev ρ c = .bool (decide p)) (h1 : p → G P fn f n R (.code x :: k) ρ w) (h2 : ¬ p → G P fn f n R (.code y :: k) ρ w) : G P fn f n R (.code (.cond c x y) :: k) ρ w :=
  G.condS hc (fun h => h1 (of_decide_eq_true h)) (fun h => h2 (of_decide_eq_false h))

theorem G.condEq {c : Operand} {x y : Code} {a b : Int} (hc : ev ρ c = .bool (a == b)) (h1 : a = b → G P fn f n R (.code x :: k) ρ w) (h2 : a ≠ b → G P fn f n R (.code y :: k) ρ w) : G P fn f n R (.code (.cond c x y) :: k) ρ w :=
  G.condS hc (fun h => h1 (by simpa using h)) (fun h => h2 (by simpa using h))
theorem G.condNe {c : Operand} {x y : Code} {a b : Int} (hc : ev ρ c = .bool (a != b)) (h1 : a ≠ b → G P fn f n R (.code x :: k) ρ w) (h2 : a = b → G P fn f n R (.code y :: k) ρ w) : G P fn f n R (.code (.cond c x y) :: k) ρ w :=
  G.condS hc (fun h => h1 (by simpa using h)) (fun h => h2 (by simpa using h))
theorem G.condNot {c : Operand} {x y : Code} {b : Bool} (hc : ev ρ c = .bool (!b)) (h1 : b = false → G P fn f n R (.code x :: k) ρ w) (h2 : b = true → G P fn f n R (.code y :: k) ρ w) : G P fn f n R (.code (.cond c x y) :: k) ρ w :=
  G.condS hc (fun h => h1 (by simpa using h)) (fun h => h2 (by simpa using h))

/-- A region whose order is fixed. -/
theorem G.reg {id : Nat} {ops : Array Oper} (hd : (ops.toList.all (dstB n)) = true) (h : vcL P (ops.toList.map (·.dst)) (fun ρ' w' => G P fn f n R k ρ' w') ops.toList ρ w) :
    G P fn f n R (.code (.region id ops false) :: k) ρ w :=
  G.of_wp fun a ha => wp_region_list (wpList_of_vcL (n := n) (fun a ρ w hag hk => ⟨rfl, ρ, hag, hk⟩) ops.toList (fun o ho => List.all_eq_true.1 hd o ho) a ρ w ha h)

theorem G.seqReg {id : Nat} {ops : Array Oper} {y : Code} (hd : (ops.toList.all (dstB n)) = true) (h : vcL P (ops.toList.map (·.dst)) (fun ρ' w' => G P fn f n R (.code y :: k) ρ' w') ops.toList ρ w) :
    G P fn f n R (.code (.seq (.region id ops false) y) :: k) ρ w := G.seq (G.reg hd h)

/-- Return: one result in a slot. -/
theorem G.leave {v : Value} {k' : List Item} (hf : P.funcs[f]? = some fn) (hk : k' = [] ∨ ∃ r, k' = .code .ret :: r) (hr : ∀ a, Ag n a ρ → (results fn a.tmps).run P w = .ok v w) (hR : R (.returned v) w) : G P fn f n R k' ρ w := by
  refine ⟨fun a ha b cs hb hk' => ?_⟩
  rcases hk with rfl | ⟨r, rfl⟩
  · exact ⟨.returned v, w, _, hR, .one step_end, hb, rfl, ha.defers, hk', fn, by simpa [Frame.at, hb] using hf, hr a ha⟩
  · exact ⟨.returned v, w, _, hR, .one step_ret, hb, rfl, ha.defers, hk', fn, by simpa [Frame.at, hb] using hf, hr a ha⟩

theorem G.ret1 {t : Nat} {v : Value} (hf : P.funcs[f]? = some fn) (ht : fn.results = #[.tmp t]) (hv : ρ t = v) (hR : R (.returned v) w) : G P fn f n R (.code .ret :: k) ρ w :=
  G.leave hf (.inr ⟨k, rfl⟩) (fun a ha => by rw [results_tmp ht, ha.val t, hv]) hR
theorem G.end1 {t : Nat} {v : Value} (hf : P.funcs[f]? = some fn) (ht : fn.results = #[.tmp t]) (hv : ρ t = v) (hR : R (.returned v) w) : G P fn f n R [] ρ w :=
  G.leave hf (.inl rfl) (fun a ha => by rw [results_tmp ht, ha.val t, hv]) hR
theorem G.ret2 {t u : Nat} {v x : Value} (hf : P.funcs[f]? = some fn) (ht : fn.results = #[.tmp t, .tmp u]) (hv : ρ t = v) (hx : ρ u = x) (hR : R (.returned (.tuple #[v, x])) w) : G P fn f n R (.code .ret :: k) ρ w :=
  G.leave hf (.inr ⟨k, rfl⟩) (fun a ha => by rw [results_tmp2 ht, ha.val t, ha.val u, hv, hx]) hR
theorem G.ret0 (hf : P.funcs[f]? = some fn) (ht : fn.results = #[]) (hR : R (.returned (.tuple #[])) w) : G P fn f n R (.code .ret :: k) ρ w :=
  G.leave hf (.inr ⟨k, rfl⟩) (fun a _ => results_none ht _ _ _) hR
theorem G.end0 (hf : P.funcs[f]? = some fn) (ht : fn.results = #[]) (hR : R (.returned (.tuple #[])) w) : G P fn f n R [] ρ w :=
  G.leave hf (.inl rfl) (fun a _ => results_none ht _ _ _) hR

/-- A LOOP: 'I m ρ w': at most m rounds are to come. -/
theorem G.loop {c : Code} (I : Nat → Env → World → Prop) (m : Nat) (h0 : I m ρ w)
    (round : ∀ m ρ w, I m ρ w → ∀ k', (∀ m' ρ' w', m' < m → I m' ρ' w' → G P fn f n R (.inLoop c :: k') ρ' w') → k' = k → G P fn f n R (.code c :: .inLoop c :: k') ρ w) :
    G P fn f n R (.code (.loop c) :: k) ρ w := by
  refine G.loop1 ?_
  have key : ∀ m ρ w, I m ρ w → G P fn f n R (.code c :: .inLoop c :: k) ρ w := by
    intro m
    induction m using Nat.strongRecOn with
    | _ m ih => exact fun ρ w hI => round m ρ w hI k (fun m' ρ' w' hlt hI' => G.inLoop (ih m' hlt ρ' w' hI')) rfl
  exact key m ρ w h0

/-- A LOOP IN A BLOCK ('for'): what holds behind it is 'Post'; the round sees a rest that is a variable. -/
theorem G.forLoop {id : Nat} {c : Code} (I : Nat → Env → World → Prop) (Post : Env → World → Prop) (m : Nat) (h0 : I m ρ w)
    (round : ∀ m ρ w, I m ρ w → ∀ kL kX, (∀ m' ρ' w', m' < m → I m' ρ' w' → G P fn f n R kL ρ' w') → exitTo id kL = some kX → (∀ ρ' w', Post ρ' w' → G P fn f n R kX ρ' w') → G P fn f n R (.code c :: kL) ρ w)
    (rest : ∀ ρ' w', Post ρ' w' → G P fn f n R k ρ' w') : G P fn f n R (.code (.block id (.loop c)) :: k) ρ w := by
  refine G.block (G.loop I m h0 ?_)
  intro m ρ w hI k' hk' hkk
  subst hkk
  exact round m ρ w hI (.inLoop c :: .inBlock id :: k) k hk' (by simp [exitTo]) rest

/-- 'break' or 'continue': out of the blocks that lie ahead. -/
theorem G.exitB {id id' : Nat} {k k' : List Item} (hne : id' ≠ id) (h : exitTo id k = some k') : exitTo id (.inBlock id' :: k) = some k' := by
  simp [exitTo, hne, h]
theorem G.exitC {id : Nat} {c : Code} {k k' : List Item} (h : exitTo id k = some k') : exitTo id (.code c :: k) = some k' := by
  simp [exitTo, h]

/-- A STATEMENT WHOSE WAYS MEET AGAIN. -/
theorem G.meet {x y : Code} (Mid : Env → World → Prop) (first : ∀ k', (∀ ρ' w', Mid ρ' w' → G P fn f n R k' ρ' w') → G P fn f n R (.code x :: k') ρ w)
    (rest : ∀ ρ' w', Mid ρ' w' → G P fn f n R (.code y :: k) ρ' w') : G P fn f n R (.code (.seq x y) :: k) ρ w :=
  G.seq (first _ rest)
theorem G.meetBlock {id : Nat} {c : Code} (Mid : Env → World → Prop) (first : ∀ k', (∀ ρ' w', Mid ρ' w' → G P fn f n R k' ρ' w') → G P fn f n R (.code c :: .inBlock id :: k') ρ w)
    (rest : ∀ ρ' w', Mid ρ' w' → G P fn f n R k ρ' w') : G P fn f n R (.code (.block id c) :: k) ρ w :=
  G.block (first _ rest)
/-- FORGET all but what is listed. -/
theorem G.forget (vs : List (Nat × Value)) (hv : ∀ p ∈ vs, ρ p.1 = p.2) (h : ∀ ρ' : Env, (∀ p ∈ vs, ρ' p.1 = p.2) → G P fn f n R k ρ' w) : G P fn f n R k ρ w := h ρ hv
end

/-- A CALL from its body. -/
theorem calls {P : Program} {f : FuncId} {fn : Func} {c : Code} {n : Nat} {args : Array Value} {w : World} {R : Ending → World → Prop}
    (hf : P.funcs[f]? = some fn) (hb : fn.body = some c) (hn : fn.ntmps = n) (hle : args.size ≤ n)
    (h : ∀ ρ : Env, (∀ i, i < args.size → ρ i = args.getD i undef) → G P fn f n R [.code c] ρ w) : Calls P f args w R := by
  intro cs
  let b : Frame := { (default : Frame) with fn := f, kind := .normal }
  have henter : Frame.enter P f args .normal = b.at { tmps := args ++ Array.replicate (fn.ntmps - args.size) undef, defers := [] } [.code c] := by
    simp [Frame.enter, Frame.at, hf, hb, b]
  rw [henter, hn]
  have hag : Ag n { tmps := args ++ Array.replicate (n - args.size) undef, defers := [] } (fun i => (args ++ Array.replicate (n - args.size) undef).getD i undef) :=
    ⟨by simp; omega, rfl, fun i => rfl⟩
  obtain ⟨e, w', fr, hR, hc, h1, h2⟩ := (h _ (fun i hi => by
    simp [Array.getD_eq_getD_getElem?, Array.getElem?_append, hi])).out _ hag b cs rfl rfl
  exact ⟨e, w', fr, hR, hc, h1, h2⟩

end Go.Vc
