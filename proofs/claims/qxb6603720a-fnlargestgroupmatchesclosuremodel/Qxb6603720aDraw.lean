/-
  REGIONS THAT DRAW THEIR ORDER. Any program that follows 'mixedOrders'.
-/
import Derived.Test.Qxb6603720aMem
import Derived.OrdersHeld
import Derived.StillTail
set_option linter.unusedVariables false
set_option linter.unusedSimpArgs false
namespace Go.Vc
open Go

/-- an operation that only reads: its value in the world w -/
def rdF (P : Program) (o : Oper) (ρ : Env) (w : World) : Option Value :=
  match o.op with
  | .move x => some (ev ρ x)
  | .assign x => some (ev ρ x)
  | .pick c a b => pickV (ev ρ c) (ev ρ a) (ev ρ b)
  | .load t a => if scalarB P t = true then loadV w (ev ρ a) else none
  | .binOp op t x y _ => binX P op t (ev ρ x) (ev ρ y)
  | .unOp op _ x => unV op (ev ρ x)
  | .convert s d x => cvV P s d (ev ρ x)
  | .indexAddr t x i => idxV P t (ev ρ x) (ev ρ i)
  | .fieldAddr s x j => fldV P s j (ev ρ x)
  | .nilCheck x => nilV (ev ρ x)
  | .call c => match c.callee, c.args.toList, c.argTypes.toList with
    | .builtin .len, [x], [t] => lenV P t (ev ρ x)
    | .builtin .min, [x, y], _ => minV (ev ρ x) (ev ρ y)
    | _, _, _ => none
  | _ => none

section
variable {P : Program}
theorem opF_rd {o : Oper} {ρ : Env} {w : World} {v : Value} {K : Value → World → Prop} (h : rdF P o ρ w = some v) (hK : K v w) : opF P o ρ w K := by
  obtain ⟨dst, op, ty, pos, aft, gd⟩ := o
  cases op <;> simp only [rdF] at h <;> try (cases h; done)
  case move x => simp at h; subst h; exact hK
  case assign x => simp at h; subst h; exact hK
  case load t a =>
    split at h
    · rename_i ht; exact ⟨ht, by rw [h]; exact hK⟩
    · cases h
  case call c =>
    simp only [opF]
    split at h
    · rename_i x t hc ha ht
      rw [hc, ha, ht]; simp only [callF, h, oW]; exact hK
    · rename_i x y hc ha
      rw [hc, ha]; simp only [callF, h, oW]; exact hK
    · cases h
  all_goals (simp only [opF, h, oW]; exact hK)

theorem opF_of_rdF {o : Oper} {ρ : Env} {w : World} {v : Value} (h : rdF P o ρ w = some v) : opF P o ρ w (fun v' w' => v' = v ∧ w' = w) := opF_rd h ⟨rfl, rfl⟩
theorem value_run {s : Sem Value} {w w' : World} {x : Next} (h : (do pure (Next.value (← s)) : Sem Next).run P w = .ok x w') : ∃ v, x = .value v := by
  simp only [Sem.run_bind] at h
  cases hs : s.run P w with
  | ok v w1 => rw [hs] at h; simp at h; exact ⟨v, h.1.symm⟩
  | halt e w1 => rw [hs] at h; simp at h

theorem run_of_rdF {o : Oper} {ρ : Env} {w : World} {v : Value} (h : rdF P o ρ w = some v) : (execOp (ev ρ) o).run P w = .ok (.value v) w := by
  have h1 := opW_of_opF (opF_of_rdF h)
  have h2 : ∀ x w', (execOp (ev ρ) o).run P w = .ok x w' → ∃ u, x = .value u := by
    obtain ⟨dst, op, ty, pos, aft, gd⟩ := o
    cases op <;> simp only [rdF] at h <;> try (cases h; done)
    case move x => intro x w' he; simp [execOp] at he; exact ⟨_, he.1.symm⟩
    case assign x => intro x w' he; simp [execOp] at he; exact ⟨_, he.1.symm⟩
    case pick c a b =>
      intro x w' he
      cases hc : ev ρ c <;> rw [hc] at h <;> simp [pickV] at h
      simp [execOp, hc, asBool] at he
      exact ⟨_, he.1.symm⟩
    case nilCheck x =>
      intro y w' he
      unfold nilV at h
      split at h
      · rename_i p hp
        simp [execOp, hp] at he; exact ⟨_, he.1.symm⟩
      · cases h
    case call c =>
      intro y w' he
      split at h
      · rename_i x t hc ha ht
        simp only [execOp, resolve, hc] at he
        exact value_run (by simpa [invoke, builtin] using he)
      · rename_i x z hc ha
        simp only [execOp, resolve, hc] at he
        exact value_run (by simpa [invoke, builtin] using he)
      · cases h
    all_goals (intro x w' he; exact value_run he)
  unfold opW at h1
  generalize hr : (execOp (ev ρ) o).run P w = r at *
  cases r with
  | ok x w' =>
    obtain ⟨u, rfl⟩ := h2 x w' rfl
    simp only at h1
    rw [h1.1, h1.2]
  | halt x w' => exact h1.elim

/-! ### A region that only reads (calls that turn nothing among it) -/
def opS (P : Program) (o : Oper) (ρ : Env) (w : World) (K : Value → Prop) : Prop :=
  match o.op with
  | .call ⟨.value fo, args, ts⟩ => ∃ f vs v, (execOp (ev ρ) o).run P w = .ok (.enter f vs) w ∧ Calls P f vs w (fun e w' => e = .returned v ∧ w' = w) ∧ K v
  | _ => oW (rdF P o ρ w) K
def vcS (P : Program) (ds : List (Option Nat)) (w : World) (K : Env → Prop) : List Oper → Env → Prop
  | [], ρ => K ρ
  | o :: os, ρ => if gok ds ρ o.guard = true then opS P o ρ w (fun v => vcS P ds w K os (put ρ o.dst v)) else vcS P ds w K os (put ρ o.dst undef)

theorem still_of_opS {o : Oper} {n : Nat} {a : Act} {ρ : Env} {w : World} {K : Value → Prop} {next : Act → Prop} (hag : Ag n a ρ) (hn : ∀ v, K v → next (a.put o.dst v)) (h : opS P o ρ w K) : o.still P a w next := by
  have hv : oW (rdF P o ρ w) K → o.still P a w next := by
    intro h
    cases hr : rdF P o ρ w with
    | none => rw [hr] at h; exact h.elim
    | some v =>
      rw [hr] at h
      unfold Oper.still
      rw [hag.ev, run_of_rdF hr]
      exact ⟨rfl, hn _ h⟩
  unfold opS at h
  split at h
  · obtain ⟨f, vs, v, hr, hc, hk⟩ := h
    unfold Oper.still
    rw [hag.ev, hr]
    exact ⟨rfl, v, hc, hn _ hk⟩
  · exact hv h

theorem wpStill_of_vcS {n : Nat} {ops : Array Oper} {w : World} {K : Env → Prop} {Q : Act → Prop} (hQ : ∀ a ρ, Ag n a ρ → K ρ → Q a) :
    ∀ (l : List Oper), (∀ o ∈ l, dstB n o = true) → ∀ (a : Act) (ρ : Env), Ag n a ρ → vcS P (ops.toList.map (·.dst)) w K l ρ → wpStill P ops w Q l a
  | [], _, a, ρ, hag, h => hQ a ρ hag h
  | o :: l, hd, a, ρ, hag, h => by
    have hdo : ∀ x, o.dst = some x → x < n := by
      intro x hx
      have := hd o (by simp)
      simpa [dstB, hx] using this
    have ih := wpStill_of_vcS (ops := ops) (w := w) hQ l (fun o ho => hd o (by simp [ho]))
    simp only [wpStill, wanted_eq hag]
    simp only [vcS] at h
    split
    · rename_i hg
      rw [if_pos hg] at h
      exact still_of_opS hag (fun v hk => ih _ _ (hag.put hdo v) hk) h
    · rename_i hg
      rw [if_neg hg] at h
      exact ih _ _ (hag.put hdo undef) h

variable {fn : Func} {f : FuncId} {n : Nat} {R : Ending → World → Prop} {k : List Item} {ρ : Env} {w : World}
theorem G.still {id : Nat} {ops : Array Oper} (hm : P.follows .mixedOrders = true) (hB : Region.lexB .any ops = true) (hd : (ops.toList.all (dstB n)) = true)
    (h : vcS P (ops.toList.map (·.dst)) w.drew (fun ρ' => G P fn f n R k ρ' w.drew) ops.toList ρ) : G P fn f n R (.code (.region id ops true) :: k) ρ w :=
  G.of_wp fun a ha => wp_region_still hm hB (wpStill_of_vcS (n := n) (fun a ρ hag hk => ⟨rfl, ρ, hag, hk⟩) ops.toList (fun o ho => List.all_eq_true.1 hd o ho) a ρ ha h)
theorem G.stillS {id : Nat} {ops : Array Oper} {y : Code} (hm : P.follows .mixedOrders = true) (hB : Region.lexB .any ops = true) (hd : (ops.toList.all (dstB n)) = true)
    (h : vcS P (ops.toList.map (·.dst)) w.drew (fun ρ' => G P fn f n R (.code y :: k) ρ' w.drew) ops.toList ρ) : G P fn f n R (.code (.seq (.region id ops true) y) :: k) ρ w :=
  G.seq (G.still hm hB hd h)
/-- the last operations, from number m on, come in their order; those ahead of them only read -/
theorem G.stillTail {id : Nat} {l : List Oper} (m : Nat) (hm : P.follows .mixedOrders = true) (hB : Region.lexTailB .any l.toArray m = true) (hd : (l.all (dstB n)) = true)
    (h : vcS P (l.map (·.dst)) w.drew (fun ρ' => vc P (l.map (·.dst)) (fun ρ'' w'' => G P fn f n R k ρ'' w'') (l.drop m) ρ' w.drew) (l.take m) ρ) : G P fn f n R (.code (.region id l.toArray true) :: k) ρ w := by
  refine G.of_wp fun a ha => wp_region_still_tail m hm hB ?_
  have hall : ∀ o ∈ l, dstB n o = true := fun o ho => List.all_eq_true.1 hd o ho
  refine wpStill_of_vcS (n := n) (K := fun ρ' => vc P (l.map (·.dst)) (fun ρ'' w'' => G P fn f n R k ρ'' w'') (l.drop m) ρ' w.drew) ?_ (l.take m) (fun o ho => hall o (List.mem_of_mem_take ho)) a ρ ha (by simpa using h)
  intro a' ρ' hag hk
  exact wpList_of_vcL (n := n) (K := fun ρ'' w'' => G P fn f n R k ρ'' w'') (fun a ρ w hag hk => ⟨rfl, ρ, hag, hk⟩) (l.drop m) (fun o ho => hall o (List.mem_of_mem_drop ho)) a' ρ' _ hag (by simpa using vcL_of_vc _ _ _ hk)

/-! ### The moves over a region that writes -/
structure D (P : Program) (fn : Func) (f : FuncId) (n : Nat) (R : Ending → World → Prop) (ops : Array Oper) (S : World → Prop) (k : List Item) (fuel : Nat) (listed : Array Bool) (ρ : Env) (w : World) : Prop where
  out : ∀ a, Ag n a ρ → wpAnyH P .any ops (fun e a' w' => e = .normal ∧ ∃ ρ', Ag n a' ρ' ∧ G P fn f n R k ρ' w') S fuel listed a w
theorem D.begin {id : Nat} {ops : Array Oper} (S : World → Prop) (m : Nat) (hsz : ops.size = m) (hm : P.follows .mixedOrders = true) (h : D P fn f n R ops S k m (Array.replicate m false) ρ w.drew) : G P fn f n R (.code (.region id ops true) :: k) ρ w := by
  subst hsz
  exact G.of_wp fun a ha => wp_region_held hm (h.out a ha)
theorem D.done {ops : Array Oper} {S : World → Prop} {fuel : Nat} {listed : Array Bool} (hr : Region.ready .any ops listed = []) (h : G P fn f n R k ρ w) : D P fn f n R ops S k fuel listed ρ w :=
  ⟨fun a ha => wpAnyH_done hr ⟨rfl, ρ, ha, h⟩ fuel⟩
theorem D.take {ops : Array Oper} {S : World → Prop} {fuel : Nat} {listed : Array Bool} (i : Nat) {o : Oper} (v : Value) (hi : ops[i]? = some o) (hs : Region.noSelect ops = true) (hf : Region.free .any ops listed i = true)
    (hr : (Region.ready .any ops listed).contains i = true) (hd : dstB n o = true) (hg : o.guard = none) (hy : ∀ w', S w' → rdF P o ρ w' = some v) (hS : S w)
    (h : D P fn f n R ops S k fuel (listed.setIfInBounds i true) (put ρ o.dst v) w) : D P fn f n R ops S k (fuel + 1) listed ρ w := by
  refine ⟨fun a ha => ?_⟩
  have hdo : ∀ x, o.dst = some x → x < n := by
    intro x hx
    simpa [dstB, hx] using hd
  refine wpAnyH_take hi hs hf hr (fun c a w hq => by cases hq.1) (.inl ⟨by simp [Region.wanted, hg], fun w' hw' => ?_⟩) hS (h.out _ (ha.put hdo v))
  rw [ha.ev]
  exact run_of_rdF (hy w' hw')
theorem D.all {ops : Array Oper} {S : World → Prop} {fuel : Nat} {listed : Array Bool} (rs : List Nat) (hr : Region.ready .any ops listed = rs) (hne : rs ≠ [])
    (h : ∀ i ∈ rs, ∃ o, ops[i]? = some o ∧ dstB n o = true ∧ o.guard = none ∧ opF P o ρ w (fun v w' => S w' ∧ D P fn f n R ops S k fuel (listed.setIfInBounds i true) (put ρ o.dst v) w')) : D P fn f n R ops S k (fuel + 1) listed ρ w := by
  refine ⟨fun a ha => wpAnyH_all hr hne fun i hi => ?_⟩
  obtain ⟨o, ho, hd, hg, hop⟩ := h i hi
  have hdo : ∀ x, o.dst = some x → x < n := by
    intro x hx
    simpa [dstB, hx] using hd
  unfold wpOp
  simp only [ho]
  rw [if_pos (by simp [Region.wanted, hg])]
  exact .inl (wp_of_opW ha (fun v w' hk => ⟨hk.1, hk.2.out _ (ha.put hdo v)⟩) (opW_of_opF hop))
theorem D.one {ops : Array Oper} {S : World → Prop} {fuel : Nat} {listed : Array Bool} (i : Nat) (o : Oper) (hr : Region.ready .any ops listed = [i]) (hi : ops[i]? = some o) (hd : dstB n o = true) (hg : o.guard = none)
    (h : opF P o ρ w (fun v w' => S w' ∧ D P fn f n R ops S k fuel (listed.setIfInBounds i true) (put ρ o.dst v) w')) : D P fn f n R ops S k (fuel + 1) listed ρ w :=
  D.all [i] hr (by simp) (fun j hj => by simp at hj; subst hj; exact ⟨o, hi, hd, hg, h⟩)

/-- the same, each operation told by its slot and its text -/
def mkO (d : Option Nat) (op : Op) : Oper := { dst := d, op := op, type := 0, pos := "", after := #[], guard := none }
def opAt (ops : Array Oper) (i : Nat) : Option (Option Nat × Op × Option (Nat × Bool)) := (ops[i]?).map (fun o => (o.dst, o.op, o.guard))
theorem opAt_spec {ops : Array Oper} {i : Nat} {d : Option Nat} {op : Op} (h : opAt ops i = some (d, op, none)) : ∃ o, ops[i]? = some o ∧ o.dst = d ∧ o.op = op ∧ o.guard = none := by
  unfold opAt at h
  cases ho : ops[i]? with
  | none => simp [ho] at h
  | some o => simp [ho] at h; exact ⟨o, rfl, h.1, h.2.1, h.2.2⟩
theorem rdF_congr {o : Oper} {d : Option Nat} {op : Op} (h : o.op = op) : rdF P o ρ w = rdF P (mkO d op) ρ w := by
  unfold rdF; rw [h]; rfl
theorem D.tk {ops : Array Oper} {S : World → Prop} {fuel : Nat} {listed : Array Bool} (i : Nat) (d : Option Nat) (op : Op) (v : Value) (hi : opAt ops i = some (d, op, none)) (hs : Region.noSelect ops = true) (hf : Region.free .any ops listed i = true)
    (hr : (Region.ready .any ops listed).contains i = true) (hd : dstB n (mkO d op) = true) (hy : ∀ w', S w' → rdF P (mkO d op) ρ w' = some v) (hS : S w)
    (h : D P fn f n R ops S k fuel (listed.setIfInBounds i true) (put ρ d v) w) : D P fn f n R ops S k (fuel + 1) listed ρ w := by
  obtain ⟨o, ho, h1, h2, h3⟩ := opAt_spec hi
  subst h1
  exact D.take i v ho hs hf hr hd h3 (fun w' hw' => by rw [rdF_congr (d := o.dst) h2]; exact hy w' hw') hS h
theorem D.rd1 {ops : Array Oper} {S : World → Prop} {fuel : Nat} {listed : Array Bool} (i : Nat) (d : Option Nat) (op : Op) (v : Value) (hr : Region.ready .any ops listed = [i]) (hi : opAt ops i = some (d, op, none)) (hd : dstB n (mkO d op) = true)
    (hy : rdF P (mkO d op) ρ w = some v) (hS : S w) (h : D P fn f n R ops S k fuel (listed.setIfInBounds i true) (put ρ d v) w) : D P fn f n R ops S k (fuel + 1) listed ρ w := by
  obtain ⟨o, ho, h1, h2, h3⟩ := opAt_spec hi
  subst h1
  have hy' : rdF P o ρ w = some v := by rw [rdF_congr (d := o.dst) h2]; exact hy
  refine D.all [i] hr (by simp) (fun j hj => ?_)
  simp at hj; subst hj
  refine ⟨o, ho, hd, h3, ?_⟩
  exact opF_rd hy' ⟨hS, h⟩
theorem D.rd2 {ops : Array Oper} {S : World → Prop} {fuel : Nat} {listed : Array Bool} (i j : Nat) (d e : Option Nat) (op oq : Op) (v u : Value) (hr : Region.ready .any ops listed = [i, j]) (hi : opAt ops i = some (d, op, none)) (hj : opAt ops j = some (e, oq, none))
    (hd : dstB n (mkO d op) = true) (he : dstB n (mkO e oq) = true) (hy : rdF P (mkO d op) ρ w = some v) (hz : rdF P (mkO e oq) ρ w = some u) (hS : S w)
    (h : D P fn f n R ops S k fuel (listed.setIfInBounds i true) (put ρ d v) w) (h' : D P fn f n R ops S k fuel (listed.setIfInBounds j true) (put ρ e u) w) : D P fn f n R ops S k (fuel + 1) listed ρ w := by
  obtain ⟨o, ho, h1, h2, h3⟩ := opAt_spec hi
  obtain ⟨o', ho', h1', h2', h3'⟩ := opAt_spec hj
  subst h1 h1'
  have hy' : rdF P o ρ w = some v := by rw [rdF_congr (d := o.dst) h2]; exact hy
  have hz' : rdF P o' ρ w = some u := by rw [rdF_congr (d := o'.dst) h2']; exact hz
  refine D.all [i, j] hr (by simp) (fun q hq => ?_)
  simp at hq
  rcases hq with rfl | rfl
  · exact ⟨o, ho, hd, h3, opF_rd hy' ⟨hS, h⟩⟩
  · exact ⟨o', ho', he, h3', opF_rd hz' ⟨hS, h'⟩⟩
theorem D.st {ops : Array Oper} {S : World → Prop} {fuel : Nat} {listed : Array Bool} (i : Nat) (t : TypeId) (a x : Operand) (p : Addr) (xv : Value) (hr : Region.ready .any ops listed = [i]) (hi : opAt ops i = some (none, .store t a x, none)) (ht : scalarB P t = true)
    (hp : ev ρ a = .pointer (some p)) (hx : ev ρ x = xv) (h1 : (w.cell? p).isSome = true) (h2 : w.frozen? p = false) (h3 : atomB xv = true) (hS : S (w.setCell p xv))
    (h : D P fn f n R ops S k fuel (listed.setIfInBounds i true) ρ (w.setCell p xv)) : D P fn f n R ops S k (fuel + 1) listed ρ w := by
  obtain ⟨o, ho, e1, e2, e3⟩ := opAt_spec hi
  subst hx
  refine D.all [i] hr (by simp) (fun j hj => ?_)
  simp at hj; subst hj
  refine ⟨o, ho, by simp [dstB, e1], e3, ?_⟩
  unfold opF
  rw [e2, e1]
  simp only [hp, addrV, stF]
  exact ⟨ht, ⟨h1, h2, h3⟩, hS, h⟩
end

/-! ### equations for 'simp only' -/
section
variable {P : Program} {ds : List (Option Nat)} {K : Env → Prop} {os : List Oper} {ρ : Env} {w : World} {d : Option Nat} {ty : TypeId} {pos : String} {aft : Array Edge}
def sO (P : Program) (ds : List (Option Nat)) (w : World) (K : Env → Prop) (os : List Oper) (ρ : Env) (d : Option Nat) (o : Option Value) : Prop := oW o (fun v => vcS P ds w K os (put ρ d v))
theorem sO_some (v : Value) : sO P ds w K os ρ d (some v) = vcS P ds w K os (put ρ d v) := propext ⟨fun h => h, fun h => h⟩
theorem vs_nil : vcS P ds w K [] ρ = K ρ := propext ⟨fun h => h, fun h => h⟩
theorem vs_move (x : Operand) : vcS P ds w K (⟨d, .move x, ty, pos, aft, none⟩ :: os) ρ = vcS P ds w K os (put ρ d (ev ρ x)) := propext ⟨fun h => h, fun h => h⟩
theorem vs_assign (x : Operand) : vcS P ds w K (⟨d, .assign x, ty, pos, aft, none⟩ :: os) ρ = vcS P ds w K os (put ρ d (ev ρ x)) := propext ⟨fun h => h, fun h => h⟩
theorem vs_pick (c a b : Operand) : vcS P ds w K (⟨d, .pick c a b, ty, pos, aft, none⟩ :: os) ρ = sO P ds w K os ρ d (pickV (ev ρ c) (ev ρ a) (ev ρ b)) := propext ⟨fun h => h, fun h => h⟩
theorem vs_load (t : TypeId) (a : Operand) (ht : scalarB P t = true) : vcS P ds w K (⟨d, .load t a, ty, pos, aft, none⟩ :: os) ρ = sO P ds w K os ρ d (loadV w (ev ρ a)) := by
  show oW (if scalarB P t = true then loadV w (ev ρ a) else none) _ = _
  rw [if_pos ht]; rfl
theorem vs_bin (op : BinOp) (t u : TypeId) (x y : Operand) : vcS P ds w K (⟨d, .binOp op t x y u, ty, pos, aft, none⟩ :: os) ρ = sO P ds w K os ρ d (binX P op t (ev ρ x) (ev ρ y)) := propext ⟨fun h => h, fun h => h⟩
theorem vs_un (op : UnOp) (t : TypeId) (x : Operand) : vcS P ds w K (⟨d, .unOp op t x, ty, pos, aft, none⟩ :: os) ρ = sO P ds w K os ρ d (unV op (ev ρ x)) := propext ⟨fun h => h, fun h => h⟩
theorem vs_conv (s t : TypeId) (x : Operand) : vcS P ds w K (⟨d, .convert s t x, ty, pos, aft, none⟩ :: os) ρ = sO P ds w K os ρ d (cvV P s t (ev ρ x)) := propext ⟨fun h => h, fun h => h⟩
theorem vs_idx (t : TypeId) (x i : Operand) : vcS P ds w K (⟨d, .indexAddr t x i, ty, pos, aft, none⟩ :: os) ρ = sO P ds w K os ρ d (idxV P t (ev ρ x) (ev ρ i)) := propext ⟨fun h => h, fun h => h⟩
theorem vs_fld (t : TypeId) (x : Operand) (j : Nat) : vcS P ds w K (⟨d, .fieldAddr t x j, ty, pos, aft, none⟩ :: os) ρ = sO P ds w K os ρ d (fldV P t j (ev ρ x)) := propext ⟨fun h => h, fun h => h⟩
theorem vs_nilc (x : Operand) : vcS P ds w K (⟨d, .nilCheck x, ty, pos, aft, none⟩ :: os) ρ = sO P ds w K os ρ d (nilV (ev ρ x)) := propext ⟨fun h => h, fun h => h⟩
theorem vs_len (t : TypeId) (x : Operand) : vcS P ds w K (⟨d, .call ⟨.builtin .len, #[x], #[t]⟩, ty, pos, aft, none⟩ :: os) ρ = sO P ds w K os ρ d (lenV P t (ev ρ x)) := propext ⟨fun h => h, fun h => h⟩
theorem vs_min (ts : Array TypeId) (x y : Operand) : vcS P ds w K (⟨d, .call ⟨.builtin .min, #[x, y], ts⟩, ty, pos, aft, none⟩ :: os) ρ = sO P ds w K os ρ d (minV (ev ρ x) (ev ρ y)) := propext ⟨fun h => h, fun h => h⟩
def gdS (P : Program) (ds : List (Option Nat)) (w : World) (K : Env → Prop) (o : Oper) (os : List Oper) (ρ : Env) (want : Bool) (v : Value) : Prop :=
  if isB want v = true then vcS P ds w K (o :: os) ρ else vcS P ds w K os (put ρ o.dst undef)
theorem vs_guard (op : Op) (j : Nat) (want : Bool) : vcS P ds w K (⟨d, op, ty, pos, aft, some (j, want)⟩ :: os) ρ = gdS P ds w K ⟨d, op, ty, pos, aft, none⟩ os ρ want (gslot ds ρ j) := by
  have e : gok ds ρ (some (j, want)) = isB want (gslot ds ρ j) := by
    simp only [gok]
    generalize gslot ds ρ j = v
    cases v <;> rfl
  simp only [vcS, gdS, e]
  rfl
theorem gdS_yes {o : Oper} {want : Bool} : gdS P ds w K o os ρ want (.bool want) = vcS P ds w K (o :: os) ρ := by simp [gdS, isB]
theorem gdS_ft {o : Oper} : gdS P ds w K o os ρ false (.bool true) = vcS P ds w K os (put ρ o.dst undef) := by simp [gdS, isB]
theorem gdS_tf {o : Oper} : gdS P ds w K o os ρ true (.bool false) = vcS P ds w K os (put ρ o.dst undef) := by simp [gdS, isB]
theorem gdS_un {o : Oper} {want : Bool} : gdS P ds w K o os ρ want undef = vcS P ds w K os (put ρ o.dst undef) := by simp [gdS, isB, undef]
theorem vs_call {f : FuncId} {fo : Operand} {args : Array Operand} {ts : Array TypeId} {first cap vs : Array Value} {v : Value}
    (hb : HasBody P f) (hf : ev ρ fo = .func (.func f) first cap) (ha : (first ++ args.map (ev ρ)) ++ cap = vs) (hc : Calls P f vs w (fun e w' => e = .returned v ∧ w' = w))
    (h : vcS P ds w K os (put ρ d v)) : vcS P ds w K (⟨d, .call ⟨.value fo, args, ts⟩, ty, pos, aft, none⟩ :: os) ρ := by
  obtain ⟨fn, h1, h2, h3⟩ := hb.out
  have h2' : ¬ fn.name = "runtime.NumGoroutine" := by simpa using h2
  have h3' : ¬ fn.body = none := by intro e; simp [e] at h3
  simp only [vcS, gok, if_true, opS]
  refine ⟨f, vs, v, ?_, hc, h⟩
  subst ha
  simp [execOp, resolve, hf, Deferred.ofValue, invoke, callFunc, h1, h2', h3']
end
end Go.Vc
