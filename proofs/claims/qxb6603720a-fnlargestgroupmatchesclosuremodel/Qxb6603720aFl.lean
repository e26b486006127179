import Derived.Laws.FloatArith
set_option linter.unusedVariables false
set_option linter.unusedSimpArgs false
namespace Go.Fl
open Ieee

def sv (s : Bool) (m : Nat) : Int := if s then -(m : Int) else m
theorem signed_eq (s : Bool) (m up : Nat) : signed s m up = sv s m * 2 ^ up := by
  unfold signed sv
  cases s <;> simp [Nat.shiftLeft_eq, Int.neg_mul]
theorem sv_natAbs (s : Bool) (m : Nat) : (sv s m).natAbs = m := by cases s <;> simp [sv]
theorem sv_zero (s : Bool) : sv s 0 = 0 := by cases s <;> simp [sv]
theorem sv_mul (s : Bool) (m k : Nat) : sv s (m * k) = sv s m * k := by cases s <;> simp [sv, Int.neg_mul]

/-- the word b stands for the whole number z -/
def V2 (b : Nat) (z : Int) : Prop := ∃ s m i, double.read b = .number s m i ∧ ∃ K : Nat, 0 ≤ i + K ∧ sv s m * 2 ^ (i + K).toNat = z * 2 ^ K

theorem pow_pos' (n : Nat) : (0 : Int) < 2 ^ n := by
  have : (2 : Int) ^ n = ((2 ^ n : Nat) : Int) := by simp
  rw [this]
  have := Nat.two_pow_pos n
  omega
theorem cancel {a b : Int} {n : Nat} (h : a * 2 ^ n = b * 2 ^ n) : a = b := Int.eq_of_mul_eq_mul_right (Int.ne_of_gt (pow_pos' n)) h

theorem scale {x z : Int} {i : Int} {K K' : Nat} (h1 : 0 ≤ i + K) (h2 : 0 ≤ i + K') (h : x * 2 ^ (i + K).toNat = z * 2 ^ K) : x * 2 ^ (i + K').toNat = z * 2 ^ K' := by
  have e : (i + K).toNat + K' = (i + K').toNat + K := by omega
  apply cancel (n := K)
  rw [Int.mul_assoc, ← Int.pow_add, ← e, Int.pow_add, ← Int.mul_assoc, h, Int.mul_assoc, Int.mul_assoc, Int.mul_comm (2 ^ K)]

theorem log2_of {m a : Nat} (h1 : 2 ^ a ≤ m) (h2 : m < 2 ^ (a + 1)) : m.log2 = a := by
  have hm : m ≠ 0 := by have := Nat.two_pow_pos a; omega
  have h3 := (Nat.le_log2 hm).2 h1
  have h4 := (Nat.log2_lt hm).2 h2
  omega

theorem cut_zero (neg : Bool) (n : Nat) : Toward.even.cut neg n 0 = n := by
  simp [Toward.cut, Nat.mod_one]
theorem cut_exact (neg : Bool) (q d : Nat) (hd : d ≤ (q * 2 ^ d).log2 + 2) : Toward.even.cut neg (q * 2 ^ d) d = q := by
  have hp := Nat.two_pow_pos d
  have e1 : min d ((q * 2 ^ d).log2 + 2) = d := by omega
  simp only [Toward.cut, e1, Nat.one_shiftLeft, Nat.mul_mod_left, Nat.mul_div_cancel _ hp]
  have h1 : ¬ 2 ^ d < 2 * 0 := by omega
  have h2 : (2 ^ d == 2 * 0) = false := by simp
  simp [h1]

theorem read_word {c Q : Nat} (neg : Bool) (hc : c ≤ 52) (h1 : 4503599627370496 ≤ Q) (h2 : Q < 9007199254740992) :
    double.read (double.word neg ((1074 - c) * 4503599627370496 + Q)) = .number neg Q (-(c : Int)) := by
  have hb : double.binade = 4503599627370496 := by decide
  have hs : double.signWeight = 9223372036854775808 := by decide
  have hi : double.infRung = 9218868437227405312 := by decide
  have hl : double.leastPlace = -1074 := by decide
  have e1 : ((double.word neg ((1074 - c) * 4503599627370496 + Q)) / 9223372036854775808 % 2 == 1) = neg := by
    cases neg
    · simp only [Format.word, Bool.false_eq_true, if_false]
      have : ((1074 - c) * 4503599627370496 + Q) / 9223372036854775808 = 0 := by omega
      rw [this]; rfl
    · simp only [Format.word, if_true, hs]
      have : (9223372036854775808 + ((1074 - c) * 4503599627370496 + Q)) / 9223372036854775808 = 1 := by omega
      rw [this]; rfl
  have e2 : (double.word neg ((1074 - c) * 4503599627370496 + Q)) % 9223372036854775808 = (1074 - c) * 4503599627370496 + Q := by
    cases neg
    · simp only [Format.word, Bool.false_eq_true, if_false]; omega
    · simp only [Format.word, if_true, hs]; omega
  simp only [Format.read, hb, hs, hi, hl, e1, e2]
  rw [if_neg (by omega), if_pos (by omega)]
  have e3 : ((1074 - c) * 4503599627370496 + Q) % 4503599627370496 = Q - 4503599627370496 := by omega
  have e4 : ((1074 - c) * 4503599627370496 + Q) / 4503599627370496 = 1075 - c := by omega
  have e5 : 4503599627370496 + (Q - 4503599627370496) = Q := by omega
  have e6 : (-1074 : Int) + ((1075 - c - 1 : Nat) : Int) = -(c : Int) := by omega
  rw [e3, e4, e5, e6]

theorem read_zero (neg : Bool) : double.read (double.word neg 0) = .number neg 0 (-1074) := by cases neg <;> decide

theorem near {s : Bool} {m : Nat} {i z : Int} {K : Nat} (hK : 0 ≤ i + K) (h : sv s m * 2 ^ (i + K).toNat = z * 2 ^ K) (hz : z.natAbs < 9007199254740992) : V2 (double.nearest s m i) z := by
  by_cases hm : m = 0
  · subst hm
    rw [sv_zero, Int.zero_mul] at h
    have hz0 : z = 0 := by
      rcases Int.mul_eq_zero.1 h.symm with h | h
      · exact h
      · have := pow_pos' K; omega
    subst hz0
    refine ⟨s, 0, -1074, by simp only [Format.nearest, if_true]; exact read_zero s, 1074, by omega, by rw [sv_zero, Int.zero_mul, Int.zero_mul]⟩
  · -- the size
    have hN : m * 2 ^ (i + K).toNat = z.natAbs * 2 ^ K := by
      have := congrArg Int.natAbs h
      rw [Int.natAbs_mul, Int.natAbs_mul, sv_natAbs] at this
      simpa [Int.natAbs_pow] using this
    have hsg : z = sv s z.natAbs := by
      have hp1 := pow_pos' (i + K).toNat
      have hp2 := pow_pos' K
      cases s
      · simp only [sv, Bool.false_eq_true, if_false] at h ⊢
        have h1 : 0 ≤ z * 2 ^ K := by rw [← h]; exact Int.mul_nonneg (by omega) (by omega)
        have : 0 ≤ z := by
          rcases (by omega : z < 0 ∨ 0 ≤ z) with g | g
          · have := Int.mul_neg_of_neg_of_pos g hp2; omega
          · exact g
        omega
      · simp only [sv, if_true] at h ⊢
        have h1 : z * 2 ^ K ≤ 0 := by rw [← h, Int.neg_mul]; have := Int.mul_nonneg (show (0 : Int) ≤ m by omega) (show (0 : Int) ≤ 2 ^ (i + K).toNat by omega); omega
        have : z ≤ 0 := by
          rcases (by omega : 0 < z ∨ z ≤ 0) with g | g
          · have := Int.mul_pos g hp2; omega
          · exact g
        omega
    generalize hNN : z.natAbs = N at *
    have hN0 : N ≠ 0 := fun hh => by
      rw [hh, Nat.zero_mul] at hN
      rcases Nat.mul_eq_zero.1 hN with g | g
      · exact hm g
      · have := Nat.two_pow_pos (i + K).toNat; omega
    have hl1 := Nat.log2_self_le hN0
    have hl2 := Nat.lt_log2_self (n := N)
    have hm1 := Nat.log2_self_le hm
    have hm2 := Nat.lt_log2_self (n := m)
    generalize hl : N.log2 = l at *
    generalize hlm : m.log2 = lm at *
    have hl52 : l ≤ 52 := by
      rcases Nat.lt_or_ge 52 l with g | g
      · have : 2 ^ 53 ≤ 2 ^ l := Nat.pow_le_pow_right (by omega) g
        omega
      · exact g
    -- lm + (i+K) = l + K
    have hll : lm + (i + K).toNat = l + K := by
      have a1 : (m * 2 ^ (i + K).toNat).log2 = lm + (i + K).toNat := log2_of (by rw [Nat.pow_add]; exact Nat.mul_le_mul_right _ hm1) (by
        rw [show lm + (i + K).toNat + 1 = (lm + 1) + (i + K).toNat by omega, Nat.pow_add]
        exact Nat.mul_lt_mul_of_pos_right hm2 (Nat.two_pow_pos _))
      have a2 : (N * 2 ^ K).log2 = l + K := log2_of (by rw [Nat.pow_add]; exact Nat.mul_le_mul_right _ hl1) (by
        rw [show l + K + 1 = (l + 1) + K by omega, Nat.pow_add]
        exact Nat.mul_lt_mul_of_pos_right hl2 (Nat.two_pow_pos _))
      rw [hN] at a1
      omega
    have hlast : max (i + (lm : Int) - (52 : Nat)) (-1074) = (l : Int) - 52 := by omega
    obtain ⟨c, hc⟩ : ∃ c, c + l = 52 := ⟨52 - l, by omega⟩
    have hlast' : max (i + (lm : Int) - (52 : Nat)) (-1074) = -(c : Int) := by omega
    have hQ1 : 4503599627370496 ≤ N * 2 ^ c := by
      have := Nat.mul_le_mul_right (2 ^ c) hl1
      rw [← Nat.pow_add, show l + c = 52 by omega] at this
      exact this
    have hQ2 : N * 2 ^ c < 9007199254740992 := by
      have := Nat.mul_lt_mul_of_pos_right hl2 (Nat.two_pow_pos c)
      rw [← Nat.pow_add, show l + 1 + c = 53 by omega] at this
      exact this
    have hkept : Toward.even.cut s (m <<< (i - -(c : Int)).toNat) (-(c : Int) - i).toNat = N * 2 ^ c := by
      have hsc : ∀ K' : Nat, 0 ≤ i + K' → m * 2 ^ (i + K').toNat = N * 2 ^ K' := fun K' hK' => by
        have := scale hK hK' h
        have := congrArg Int.natAbs this
        rw [Int.natAbs_mul, Int.natAbs_mul, sv_natAbs, hNN] at this
        simpa [Int.natAbs_pow] using this
      rcases (by omega : i < -(c : Int) ∨ -(c : Int) ≤ i) with g | g
      · have e1 : (i - -(c : Int)).toNat = 0 := by omega
        have e2 := hsc (-i).toNat (by omega)
        have e3 : (i + ((-i).toNat : Nat)).toNat = 0 := by omega
        rw [e3, Nat.pow_zero, Nat.mul_one] at e2
        have e4 : (-i).toNat = c + (-(c : Int) - i).toNat := by omega
        rw [e4, Nat.pow_add, ← Nat.mul_assoc] at e2
        rw [e1, Nat.shiftLeft_zero, e2]
        refine cut_exact _ _ _ ?_
        rw [← e2, hlm]; omega
      · have e1 : (-(c : Int) - i).toNat = 0 := by omega
        have e2 := hsc c (by omega)
        rw [e1, cut_zero, Nat.shiftLeft_eq, show i - -(c : Int) = i + c by omega]
        exact e2
    have hw : double.nearest s m i = double.word s ((1074 - c) * 4503599627370496 + N * 2 ^ c) := by
      have hf : double.fractionBits = 52 := rfl
      have hb : double.binade = 4503599627370496 := by decide
      have hi : double.infRung = 9218868437227405312 := by decide
      have hlp : double.leastPlace = -1074 := by decide
      have e5 : (-(c : Int) - -1074).toNat = 1074 - c := by omega
      simp only [Format.nearest, hm, if_false, hf, hb, hi, hlp, hlm, hlast', hkept, e5]
      rw [Nat.min_eq_left (by omega)]
    rw [hw]
    refine ⟨s, N * 2 ^ c, -(c : Int), read_word s (by omega) hQ1 hQ2, c, by omega, ?_⟩
    rw [show (-(c : Int) + c).toNat = 0 by omega, Int.pow_zero, Int.mul_one, sv_mul, ← hsg]
    simp

theorem V2.uniq {b : Nat} {x y : Int} (hx : V2 b x) (hy : V2 b y) : x = y := by
  obtain ⟨s, m, i, hr, K, hK, h⟩ := hx
  obtain ⟨s', m', i', hr', K', hK', h'⟩ := hy
  rw [hr] at hr'
  simp only [Datum.number.injEq] at hr'
  obtain ⟨rfl, rfl, rfl⟩ := hr'
  have := scale hK' hK h'
  rw [h] at this
  exact cancel this

theorem sum_ok {a b : Nat} {x y : Int} {s t : Bool} {m n : Nat} {i j : Int} (K : Nat) (hi : 0 ≤ i + K) (hj : 0 ≤ j + K) (hx : sv s m * 2 ^ (i + K).toNat = x * 2 ^ K) (hy : sv t n * 2 ^ (j + K).toNat = y * 2 ^ K) (hz : (x + y).natAbs < 9007199254740992) :
    ∃ d, (Datum.number s m i).sum (Datum.number t n j) = some d ∧ V2 (double.write d) (x + y) := by
  refine ⟨_, rfl, ?_⟩
  simp only [Format.write, signed_eq]
  generalize hT : sv s m * 2 ^ (i - min i j).toNat + sv t n * 2 ^ (j - min i j).toNat = T
  have hb : 0 ≤ min i j + K := by omega
  have hTK : T * 2 ^ (min i j + K).toNat = (x + y) * 2 ^ K := by
    rw [← hT, Int.add_mul, Int.mul_assoc, Int.mul_assoc, ← Int.pow_add, ← Int.pow_add, show (i - min i j).toNat + (min i j + K).toNat = (i + K).toNat by omega, show (j - min i j).toNat + (min i j + K).toNat = (j + K).toNat by omega, hx, hy, Int.add_mul]
  have hsv : sv (if T = 0 then s && t else decide (T < 0)) T.natAbs = T := by
    by_cases h0 : T = 0
    · subst h0; simp [sv]
    · rw [if_neg h0]
      by_cases h1 : T < 0
      · simp only [h1, decide_true, sv, if_true]; omega
      · simp only [h1, decide_false, sv, Bool.false_eq_true, if_false]; omega
  exact near hb (by rw [hsv]; exact hTK) hz

theorem add_ok {a b : Nat} {x y : Int} (hx : V2 a x) (hy : V2 b y) (hz : (x + y).natAbs < 9007199254740992) : ∃ r, double.add a b = some r ∧ V2 r (x + y) := by
  obtain ⟨s, m, i, hr, K, hK, h⟩ := hx
  obtain ⟨t, n, j, hr', K', hK', h'⟩ := hy
  obtain ⟨d, hd, hv⟩ := sum_ok (a := a) (b := b) (K + K') (by omega) (by omega) (scale hK (K' := K + K') (by omega) h) (scale hK' (K' := K + K') (by omega) h') hz
  exact ⟨_, by simp only [Format.add, hr, hr', hd, Option.map_some], hv⟩
theorem sv_not (s : Bool) (m : Nat) : sv (!s) m = -sv s m := by cases s <;> simp [sv]
theorem sub_ok {a b : Nat} {x y : Int} (hx : V2 a x) (hy : V2 b y) (hz : (x - y).natAbs < 9007199254740992) : ∃ r, double.sub a b = some r ∧ V2 r (x - y) := by
  obtain ⟨s, m, i, hr, K, hK, h⟩ := hx
  obtain ⟨t, n, j, hr', K', hK', h'⟩ := hy
  have h2 := scale hK' (K' := K + K') (by omega) h'
  obtain ⟨d, hd, hv⟩ := sum_ok (a := a) (b := b) (x := x) (y := -y) (t := !t) (n := n) (j := j) (K + K') (by omega) (by omega) (scale hK (K' := K + K') (by omega) h) (by rw [sv_not, Int.neg_mul, h2, Int.neg_mul]) (by rw [← Int.sub_eq_add_neg]; exact hz)
  rw [← Int.sub_eq_add_neg] at hv
  exact ⟨_, by simp only [Format.sub, hr, hr', Datum.opposite, hd, Option.map_some], hv⟩

theorem order_ok {a b : Nat} {x y : Int} (hx : V2 a x) (hy : V2 b y) : double.order a b = some (compare x y) := by
  obtain ⟨s, m, i, hr, K, hK, h⟩ := hx
  obtain ⟨t, n, j, hr', K', hK', h'⟩ := hy
  have h1 := scale hK (K' := K + K') (by omega) h
  have h2 := scale hK' (K' := K + K') (by omega) h'
  simp only [Format.order, hr, hr', Datum.order, signed_eq]
  generalize hA : sv s m * 2 ^ (i - min i j).toNat = A
  generalize hBB : sv t n * 2 ^ (j - min i j).toNat = B
  have hp := pow_pos' (min i j + (K + K' : Nat)).toNat
  have hq := pow_pos' (K + K')
  have e1 : A * 2 ^ (min i j + (K + K' : Nat)).toNat = x * 2 ^ (K + K') := by
    rw [← hA, Int.mul_assoc, ← Int.pow_add, show (i - min i j).toNat + (min i j + (K + K' : Nat)).toNat = (i + (K + K' : Nat)).toNat by omega, h1]
  have e2 : B * 2 ^ (min i j + (K + K' : Nat)).toNat = y * 2 ^ (K + K') := by
    rw [← hBB, Int.mul_assoc, ← Int.pow_add, show (j - min i j).toNat + (min i j + (K + K' : Nat)).toNat = (j + (K + K' : Nat)).toNat by omega, h2]
  have hlt : A < B ↔ x < y := by
    rw [← Int.mul_lt_mul_right hp, e1, e2, Int.mul_lt_mul_right hq]
  have heq : A = B ↔ x = y := by
    constructor
    · intro g; rw [g, e2] at e1; exact (cancel e1).symm
    · intro g; rw [g, ← e2] at e1; exact cancel e1
  congr 1
  simp only [compare, compareOfLessAndEq]
  by_cases g1 : A < B
  · rw [if_pos g1, if_pos (hlt.1 g1)]
  · rw [if_neg g1, if_neg (fun g => g1 (hlt.2 g))]
    by_cases g2 : A = B
    · rw [if_pos g2, if_pos (heq.1 g2)]
    · rw [if_neg g2, if_neg (fun g => g2 (heq.2 g))]

theorem of_int (z : Int) (hz : z.natAbs < 9007199254740992) : V2 (double.write (.number (z < 0) z.natAbs 0)) z := by
  refine near (K := 0) (by omega) ?_ hz
  simp only [sv]
  split <;> simp_all <;> omega

/-- a whole number but nought is normal -/
theorem norm {b : Nat} {x : Int} {s : Bool} {m : Nat} {i : Int} (hr : double.read b = .number s m i) {K : Nat} (hK : 0 ≤ i + K) (h : sv s m * 2 ^ (i + K).toNat = x * 2 ^ K) (hx : x ≠ 0) (hb : x.natAbs < 9007199254740992) :
    4503599627370496 ≤ m ∧ m < 9007199254740992 ∧ i ≤ 0 ∧ m = x.natAbs * 2 ^ (-i).toNat := by
  have hN : ∀ K' : Nat, 0 ≤ i + K' → m * 2 ^ (i + K').toNat = x.natAbs * 2 ^ K' := fun K' hK' => by
    have := congrArg Int.natAbs (scale hK hK' h)
    rw [Int.natAbs_mul, Int.natAbs_mul, sv_natAbs] at this
    simpa [Int.natAbs_pow] using this
  have hx0 : 0 < x.natAbs := by omega
  have hbn : double.binade = 4503599627370496 := by decide
  have hs : double.signWeight = 9223372036854775808 := by decide
  have hlp : double.leastPlace = -1074 := by decide
  have hm : 4503599627370496 ≤ m ∧ m < 9007199254740992 := by
    simp only [Format.read, hbn, hs, hlp] at hr
    split at hr
    · rename_i h1
      simp only [Datum.number.injEq] at hr
      obtain ⟨_, rfl, rfl⟩ := hr
      obtain ⟨ex, hex⟩ : ∃ ex : Nat, ex = 1074 := ⟨_, rfl⟩
      have h2 := hN ex (by omega)
      rw [show ((-1074 : Int) + (ex : Nat)).toNat = 0 by omega, Nat.pow_zero, Nat.mul_one] at h2
      have h3 : 2 ^ 52 ≤ 2 ^ ex := Nat.pow_le_pow_right (by omega) (by omega)
      have h4 : 2 ^ ex ≤ x.natAbs * 2 ^ ex := Nat.le_mul_of_pos_left _ hx0
      generalize 2 ^ ex = big at h2 h3 h4
      omega
    · split at hr
      · simp only [Datum.number.injEq] at hr
        obtain ⟨_, rfl, _⟩ := hr
        omega
      · split at hr <;> cases hr
  have hi : i ≤ 0 := by
    rcases (by omega : i ≤ 0 ∨ 1 ≤ i) with g | g
    · exact g
    · have h2 := hN 0 (by omega)
      have h3 : 2 ^ 1 ≤ 2 ^ (i + (0 : Nat)).toNat := Nat.pow_le_pow_right (by omega) (by omega)
      have h4 := Nat.mul_le_mul hm.1 h3
      omega
  refine ⟨hm.1, hm.2, hi, ?_⟩
  have h2 := hN (-i).toNat (by omega)
  rw [show (i + ((-i).toNat : Nat)).toNat = 0 by omega, Nat.pow_zero, Nat.mul_one] at h2
  exact h2

theorem log52 {m : Nat} (h1 : 4503599627370496 ≤ m) (h2 : m < 9007199254740992) : m.log2 = 52 := log2_of (a := 52) h1 h2

theorem sv_xor (s t : Bool) (m : Nat) : sv (s ^^ t) m = (if t then -1 else 1) * sv s m := by cases s <;> cases t <;> simp [sv]

theorem div_ok {a b : Nat} {x y q : Int} (hx : V2 a x) (hy : V2 b y) (hq : x = q * y) (hy0 : y ≠ 0) (hxb : x.natAbs < 9007199254740992) (hyb : y.natAbs < 9007199254740992) (hqb : q.natAbs < 9007199254740992) : ∃ r, double.div a b = some r ∧ V2 r q := by
  obtain ⟨s, m, i, hr, K, hK, h⟩ := hx
  obtain ⟨t, n, j, hr', K', hK', h'⟩ := hy
  obtain ⟨n1, n2, hj, hn⟩ := norm hr' hK' h' hy0 hyb
  have hn0 : n ≠ 0 := by omega
  have hf : double.fractionBits = 52 := rfl
  by_cases hx0 : x = 0
  · have hq0 : q = 0 := by
      rw [hx0] at hq
      rcases Int.mul_eq_zero.1 hq.symm with g | g
      · exact g
      · exact absurd g hy0
    have hm0 : m = 0 := by
      rw [hx0, Int.zero_mul] at h
      rcases Int.mul_eq_zero.1 h with g | g
      · have := sv_natAbs s m; rw [g] at this; simpa using this.symm
      · have := pow_pos' (i + K).toNat; omega
    subst hq0 hm0
    refine ⟨_, by simp only [Format.div, hr, hr', Datum.quotient, hn0, if_false, Option.map_some]; rfl, ?_⟩
    simp only [Nat.zero_shiftLeft, Nat.zero_div, Nat.zero_mod, Format.write]
    generalize hpl : i - j - ((double.fractionBits + 2 + n.log2 - Nat.log2 0 : Nat) : Int) - 1 = pl
    have : (2 * 0 + (0 != 0).toNat) = 0 := by decide
    rw [this]
    exact near (K := (-pl).toNat) (by omega) (by rw [sv_zero, Int.zero_mul, Int.zero_mul]) (by decide)
  · obtain ⟨m1, m2, hi, hm⟩ := norm hr hK h hx0 hxb
    have e1 : double.fractionBits + 2 + n.log2 - m.log2 = 54 := by rw [hf, log52 n1 n2, log52 m1 m2]
    have hxq : x.natAbs = q.natAbs * y.natAbs := by rw [hq, Int.natAbs_mul]
    -- j is small
    obtain ⟨J, hJ⟩ : ∃ J : Nat, j = -(J : Int) := ⟨(-j).toNat, by omega⟩
    obtain ⟨Ii, hI⟩ : ∃ Ii : Nat, i = -(Ii : Int) := ⟨(-i).toNat, by omega⟩
    subst hJ hI
    simp only [Int.neg_neg, Int.toNat_natCast] at hm hn
    have hJ52 : J ≤ 52 := by
      rcases Nat.lt_or_ge 52 J with g | g
      · have h3 : 2 ^ 53 ≤ 2 ^ J := Nat.pow_le_pow_right (by omega) g
        have h4 : 2 ^ J ≤ y.natAbs * 2 ^ J := Nat.le_mul_of_pos_left _ (by omega)
        generalize 2 ^ J = big at *
        omega
      · exact g
    have hdiv : m <<< 54 = (q.natAbs * 2 ^ (Ii + 54 - J)) * n := by
      rw [Nat.shiftLeft_eq, hm, hn, hxq]
      have : 2 ^ Ii * 2 ^ 54 = 2 ^ (Ii + 54 - J) * 2 ^ J := by rw [← Nat.pow_add, ← Nat.pow_add]; congr 1; omega
      calc q.natAbs * y.natAbs * 2 ^ Ii * 2 ^ 54 = q.natAbs * y.natAbs * (2 ^ Ii * 2 ^ 54) := by rw [Nat.mul_assoc]
        _ = q.natAbs * y.natAbs * (2 ^ (Ii + 54 - J) * 2 ^ J) := by rw [this]
        _ = q.natAbs * 2 ^ (Ii + 54 - J) * (y.natAbs * 2 ^ J) := by ac_rfl
    refine ⟨_, by simp only [Format.div, hr, hr', Datum.quotient, hn0, if_false, Option.map_some]; rfl, ?_⟩
    simp only [e1, hdiv, Nat.mul_mod_left, Nat.mul_div_cancel _ (show 0 < n by omega), Format.write]
    have e2 : (2 * (q.natAbs * 2 ^ (Ii + 54 - J)) + (0 != 0).toNat) = q.natAbs * 2 ^ (Ii + 55 - J) := by
      rw [show ((0 : Nat) != 0).toNat = 0 by decide, Nat.add_zero, show Ii + 55 - J = (Ii + 54 - J) + 1 by omega, Nat.pow_succ]
      ac_rfl
    rw [e2]
    have hsx : sv s m = x * 2 ^ Ii := by
      have := scale hK (K' := Ii) (by omega) h
      rw [show (-(Ii : Int) + Ii).toNat = 0 by omega, Int.pow_zero, Int.mul_one] at this
      exact this
    have hsy : sv t n = y * 2 ^ J := by
      have := scale hK' (K' := J) (by omega) h'
      rw [show (-(J : Int) + J).toNat = 0 by omega, Int.pow_zero, Int.mul_one] at this
      exact this
    have hsign : sv (s ^^ t) q.natAbs = q := by
      have p1 := pow_pos' Ii
      have p2 := pow_pos' J
      have gx : (s = true → x < 0) ∧ (s = false → 0 < x) := by
        constructor
        · intro hs; subst hs
          have : x * 2 ^ Ii < 0 := by rw [← hsx]; simp only [sv, if_true]; omega
          rcases (by omega : x < 0 ∨ 0 ≤ x) with g | g
          · exact g
          · have := Int.mul_nonneg g (Int.le_of_lt p1); omega
        · intro hs; subst hs
          have : 0 < x * 2 ^ Ii := by rw [← hsx]; simp only [sv, Bool.false_eq_true, if_false]; omega
          rcases (by omega : 0 < x ∨ x ≤ 0) with g | g
          · exact g
          · have := Int.mul_nonpos_of_nonpos_of_nonneg g (Int.le_of_lt p1); omega
      have gy : (t = true → y < 0) ∧ (t = false → 0 < y) := by
        constructor
        · intro hs; subst hs
          have : y * 2 ^ J < 0 := by rw [← hsy]; simp only [sv, if_true]; omega
          rcases (by omega : y < 0 ∨ 0 ≤ y) with g | g
          · exact g
          · have := Int.mul_nonneg g (Int.le_of_lt p2); omega
        · intro hs; subst hs
          have : 0 < y * 2 ^ J := by rw [← hsy]; simp only [sv, Bool.false_eq_true, if_false]; omega
          rcases (by omega : 0 < y ∨ y ≤ 0) with g | g
          · exact g
          · have := Int.mul_nonpos_of_nonpos_of_nonneg g (Int.le_of_lt p2); omega
      have gq : (0 < y → (0 < x ↔ 0 < q)) ∧ (y < 0 → (0 < x ↔ q < 0)) := by
        constructor
        · intro g
          constructor
          · intro g2
            rcases (by omega : 0 < q ∨ q ≤ 0) with g3 | g3
            · exact g3
            · have := Int.mul_nonpos_of_nonpos_of_nonneg g3 (Int.le_of_lt g); omega
          · intro g2; rw [hq]; exact Int.mul_pos g2 g
        · intro g
          constructor
          · intro g2
            rcases (by omega : q < 0 ∨ 0 ≤ q) with g3 | g3
            · exact g3
            · have := Int.mul_nonpos_of_nonneg_of_nonpos g3 (Int.le_of_lt g); omega
          · intro g2; rw [hq]; exact Int.mul_pos_of_neg_of_neg g2 g
      have hqn : q ≠ 0 := fun g => by rw [g, Int.zero_mul] at hq; exact hx0 hq
      cases s <;> cases t <;> simp only [Bool.xor_false, Bool.xor_true, Bool.not_true, Bool.not_false, sv, Bool.false_eq_true, if_false, if_true]
      · have := gx.2 rfl; have := gy.2 rfl; have := (gq.1 this).1 (by assumption); omega
      · have a1 := gx.2 rfl; have a2 := gy.1 rfl; have := (gq.2 a2).1 a1; omega
      · have a1 := gx.1 rfl; have a2 := gy.2 rfl
        have : ¬ 0 < q := fun g => by have := (gq.1 a2).2 g; omega
        omega
      · have a1 := gx.1 rfl; have a2 := gy.1 rfl
        have : ¬ q < 0 := fun g => by have := (gq.2 a2).2 g; omega
        omega
    refine near (K := Ii + 55 - J) (by omega) ?_ hqb
    rw [sv_mul, hsign]
    have : (-(Ii : Int) - -(J : Int) - (54 : Nat) - 1 + (Ii + 55 - J : Nat)).toNat = 0 := by omega
    rw [this, Int.pow_zero, Int.mul_one]
    simp

theorem cutz (s : Bool) (n d : Nat) : Toward.zero.cut s n d = n / 2 ^ min d (n.log2 + 2) := by
  simp [Toward.cut, Nat.one_shiftLeft]

theorem toInt_ok {b : Nat} {z : Int} (h : V2 b z) : (double.read b).toInt .zero = some z := by
  obtain ⟨s, m, i, hr, K, hK, h⟩ := h
  simp only [hr, Datum.toInt, Datum.integral, signed_eq, Int.pow_zero, Int.mul_one, cutz]
  congr 1
  rcases (by omega : 0 ≤ i ∨ i < 0) with g | g
  · have e1 : (-i).toNat = 0 := by omega
    have h2 := scale hK (K' := 0) (by omega) h
    rw [show (i + (0 : Nat)).toNat = i.toNat by omega, Int.pow_zero, Int.mul_one] at h2
    rw [e1, Nat.zero_min, Nat.pow_zero, Nat.div_one, Nat.shiftLeft_eq, sv_mul, ← h2]
    simp
  · have e1 : i.toNat = 0 := by omega
    obtain ⟨d, hd⟩ : ∃ d : Nat, i = -(d : Int) := ⟨(-i).toNat, by omega⟩
    subst hd
    have h2 := scale hK (K' := d) (by omega) h
    rw [show (-(d : Int) + d).toNat = 0 by omega, Int.pow_zero, Int.mul_one] at h2
    have hm : m = z.natAbs * 2 ^ d := by
      have := congrArg Int.natAbs h2
      rw [sv_natAbs, Int.natAbs_mul] at this
      simpa [Int.natAbs_pow] using this
    rw [e1, Nat.shiftLeft_zero, show (- -(d : Int)).toNat = d by omega]
    have hp := Nat.two_pow_pos d
    by_cases hz : z = 0
    · subst hz
      simp only [Int.natAbs_zero, Nat.zero_mul] at hm
      subst hm
      simp [sv_zero]
    · have hm0 : m ≠ 0 := by
        rw [hm]
        exact Nat.mul_ne_zero (by omega) (by omega)
      have hl : d ≤ m.log2 := by
        refine (Nat.le_log2 hm0).2 ?_
        rw [hm]
        exact Nat.le_mul_of_pos_left _ (by omega)
      rw [Nat.min_eq_left (by omega), hm, Nat.mul_div_cancel _ hp]
      rw [hm, sv_mul] at h2
      have : sv s z.natAbs * 2 ^ d = z * 2 ^ d := by rw [← h2]; simp
      exact cancel this

/-- a number that is not above 2^35 in size, cut to a whole one -/
theorem toInt_bound {b : Nat} {s : Bool} {m : Nat} {i : Int} (hr : double.read b = .number s m i) (X : Nat) (hK : 0 ≤ i + X) (hle : m * 2 ^ (i + X).toNat ≤ 2 ^ 35 * 2 ^ X) : ∃ n : Int, (double.read b).toInt .zero = some n ∧ n.natAbs ≤ 2 ^ 35 := by
  refine ⟨_, by simp only [hr, Datum.toInt, Datum.integral, signed_eq, Int.pow_zero, Int.mul_one, cutz]; rfl, ?_⟩
  rw [sv_natAbs]
  rcases (by omega : 0 ≤ i ∨ i < 0) with g | g
  · rw [show (-i).toNat = 0 by omega, Nat.zero_min, Nat.pow_zero, Nat.div_one, Nat.shiftLeft_eq]
    rw [show (i + X).toNat = i.toNat + X by omega, Nat.pow_add, ← Nat.mul_assoc] at hle
    exact Nat.le_of_mul_le_mul_right hle (Nat.two_pow_pos _)
  · rw [show i.toNat = 0 by omega, Nat.shiftLeft_zero]
    by_cases hd : (-i).toNat ≤ m.log2 + 2
    · rw [Nat.min_eq_left hd]
      refine Nat.div_le_of_le_mul ?_
      have e : (i + X).toNat + (-i).toNat = X := by omega
      have h2 : m * 2 ^ (i + X).toNat ≤ 2 ^ (-i).toNat * 2 ^ 35 * 2 ^ (i + X).toNat := by
        calc m * 2 ^ (i + X).toNat ≤ 2 ^ 35 * 2 ^ X := hle
          _ = 2 ^ 35 * (2 ^ (i + X).toNat * 2 ^ (-i).toNat) := by rw [← Nat.pow_add 2 (i + X).toNat, e]
          _ = 2 ^ (-i).toNat * 2 ^ 35 * 2 ^ (i + X).toNat := by ac_rfl
      exact Nat.le_of_mul_le_mul_right h2 (Nat.two_pow_pos _)
    · rw [Nat.min_eq_right (by omega)]
      have h1 := Nat.lt_log2_self (n := m)
      have h3 : 2 ^ (m.log2 + 1) ≤ 2 ^ (m.log2 + 2) := Nat.pow_le_pow_right (by omega) (by omega)
      rw [Nat.div_eq_of_lt (by omega)]
      omega

theorem read_lim : double.read 4764808405757984768 = .number false 4503599627370496 (-17) := by decide
theorem read_neg : double.read 13988180442612760576 = .number true 4503599627370496 (-17) := by decide
theorem v2_lim : V2 4764808405757984768 34359738368 := ⟨false, 4503599627370496, -17, read_lim, 17, by omega, by decide⟩
theorem v2_neg : V2 13988180442612760576 (-34359738368) := ⟨true, 4503599627370496, -17, read_neg, 17, by omega, by decide⟩
theorem v2_zero : V2 0 0 := ⟨false, 0, -1074, by decide, 1074, by omega, by rw [sv_zero, Int.zero_mul, Int.zero_mul]⟩

theorem cmp_le {a b : Int} (h : (some (compare a b) == some Ordering.lt || some (compare a b) == some Ordering.eq) = true) : a ≤ b := by
  simp only [compare, compareOfLessAndEq] at h
  split at h
  · omega
  · split at h
    · omega
    · simp at h
theorem cmp_ge {a b : Int} (h : (some (compare a b) == some Ordering.gt || some (compare a b) == some Ordering.eq) = true) : b ≤ a := by
  simp only [compare, compareOfLessAndEq] at h
  split at h
  · simp at h
  · split at h
    · omega
    · omega

theorem entry {b : Nat} (h1 : (double.order b 13988180442612760576 == some .gt || double.order b 13988180442612760576 == some .eq) = true) (h2 : (double.order b 4764808405757984768 == some .lt || double.order b 4764808405757984768 == some .eq) = true) :
    ∃ n : Int, floatToIntVal .f64 b .i64 = some n ∧ n.natAbs ≤ 34359738368 := by
  have key : ∃ n : Int, (double.read b).toInt .zero = some n ∧ n.natAbs ≤ 2 ^ 35 := by
    simp only [Format.order, read_lim] at h2
    simp only [Format.order, read_neg] at h1
    cases hr : double.read b with
    | nan s f => rw [hr] at h1; simp [Datum.order] at h1
    | infinity s => rw [hr] at h1 h2; cases s <;> simp [Datum.order] at h1 h2
    | number s m i =>
      rw [hr] at h1 h2
      simp only [Datum.order, signed_eq] at h1 h2
      have g1 := cmp_ge h1
      have g2 := cmp_le h2
      rw [← hr]
      obtain ⟨X, hX1, hX2⟩ : ∃ X : Nat, 17 ≤ X ∧ 0 ≤ i + X := ⟨17 + (-i).toNat, by omega, by omega⟩
      refine toInt_bound hr X hX2 ?_
      have p := pow_pos' (min i (-17) + X).toNat
      have e3 : (i - min i (-17)).toNat + (min i (-17) + X).toNat = (i + X).toNat := by omega
      have e4 : (-17 - min i (-17)).toNat + (min i (-17) + X).toNat = X - 17 := by omega
      have k2 := Int.mul_le_mul_of_nonneg_right g2 (Int.le_of_lt p)
      have k1 := Int.mul_le_mul_of_nonneg_right g1 (Int.le_of_lt p)
      rw [Int.mul_assoc, Int.mul_assoc, ← Int.pow_add, ← Int.pow_add, e3, e4] at k1 k2
      have e5 : (2 : Nat) ^ 35 * 2 ^ X = 4503599627370496 * 2 ^ (X - 17) := by
        have : (4503599627370496 : Nat) = 2 ^ 52 := by decide
        rw [this, ← Nat.pow_add, ← Nat.pow_add]; congr 1; omega
      rw [e5]
      have e6 : ((m * 2 ^ (i + X).toNat : Nat) : Int) = m * 2 ^ (i + X).toNat := by simp
      have e7 : ((4503599627370496 * 2 ^ (X - 17) : Nat) : Int) = 4503599627370496 * 2 ^ (X - 17) := by simp
      generalize (2 : Int) ^ (i + X).toNat = A at *
      generalize (2 : Int) ^ (X - 17) = C at *
      have hsv : sv true 4503599627370496 = -4503599627370496 := by decide
      have hsv' : sv false 4503599627370496 = 4503599627370496 := by decide
      rw [hsv'] at k2
      rw [hsv] at k1
      cases s
      · simp only [sv, Bool.false_eq_true, if_false] at k2; omega
      · simp only [sv, if_true, Int.neg_mul] at k1; omega
  obtain ⟨n, hn, hb⟩ := key
  have hb' : n.natAbs ≤ 34359738368 := hb
  refine ⟨n, ?_, hb'⟩
  have hd : FloatKind.decode .f64 b = double.read b := rfl
  have hmin : IntKind.i64.min = -9223372036854775808 := by decide
  have hmax : IntKind.i64.max = 9223372036854775807 := by decide
  simp only [floatToIntVal, hd, hn, hmin, hmax]
  rw [if_pos (by omega)]

theorem conv_ok {b : Nat} {z : Int} (h : V2 b z) (hz : z.natAbs < 9007199254740992) : floatToIntVal .f64 b .i64 = some z := by
  have hd : FloatKind.decode .f64 b = double.read b := rfl
  have hmin : IntKind.i64.min = -9223372036854775808 := by decide
  have hmax : IntKind.i64.max = 9223372036854775807 := by decide
  simp only [floatToIntVal, hd, toInt_ok h, hmin, hmax]
  rw [if_pos (by omega)]

theorem v2_of_eq {a b : Nat} {z : Int} (h : V2 a z) (ho : double.order a b = some .eq) : V2 b z := by
  obtain ⟨s, m, i, hr, K, hK, h⟩ := h
  simp only [Format.order, hr] at ho
  cases hb : double.read b with
  | nan t f => rw [hb] at ho; simp [Datum.order] at ho
  | infinity t => rw [hb] at ho; cases t <;> simp [Datum.order] at ho
  | number t n j =>
    rw [hb] at ho
    simp only [Datum.order, signed_eq, Option.some.injEq] at ho
    have he : sv s m * 2 ^ (i - min i j).toNat = sv t n * 2 ^ (j - min i j).toNat := by
      simp only [compare, compareOfLessAndEq] at ho
      split at ho
      · cases ho
      · split at ho
        · assumption
        · cases ho
    obtain ⟨X, hX1, hX2⟩ : ∃ X : Nat, 0 ≤ j + X ∧ 0 ≤ i + X := ⟨(-j).toNat + (-i).toNat, by omega, by omega⟩
    refine ⟨t, n, j, hb, X, hX1, ?_⟩
    have h2 := scale hK (K' := X) hX2 h
    have e3 : (i - min i j).toNat + (min i j + X).toNat = (i + X).toNat := by omega
    have e4 : (j - min i j).toNat + (min i j + X).toNat = (j + X).toNat := by omega
    have := congrArg (· * (2 : Int) ^ (min i j + X).toNat) he
    simp only [Int.mul_assoc, ← Int.pow_add, e3, e4] at this
    rw [← this, h2]
end Go.Fl
