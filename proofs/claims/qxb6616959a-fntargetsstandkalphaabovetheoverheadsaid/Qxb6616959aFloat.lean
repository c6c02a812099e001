/-
  THE PLAIN LAW: no Go in sight. What '+' and '*' on float64 give, as a relation (a NaN's bits are left open), and the facts that the sizing law wants: a zero added to a number leaves it; two sums with a zero of either sign are equal; equal operands give equal results.
-/
import Derived.Laws.FloatArith
namespace Go.Proofs.Qxb6616959a.Fl
open Ieee

/-- The word is a NaN. -/
def nan (x : Nat) : Prop := (double.read x).isNaN = true
/-- The word is a zero, of either sign. -/
def zero (x : Nat) : Prop := ∃ s, double.read x = .number s 0 double.leastPlace
/-- What an operation on float64 may give. -/
def FR (op : BinOp) (x y r : Nat) : Prop := floatBits op .f64 x y = some r ∨ (floatBits op .f64 x y = none ∧ nan r)
/-- The same word, or two NaNs. -/
def E (x y : Nat) : Prop := x = y ∨ (nan x ∧ nan y)
/-- Go's test 'a == b || (a != a && b != b)', as the walk writes it. -/
def sameB (a b : Nat) : Bool := (double.order a b == some .eq) || ((double.order a a != some .eq) && (double.order b b != some .eq))

theorem order_self {x : Nat} (h : ¬ nan x) : double.order x x = some .eq := by
  unfold nan at h
  unfold Format.order
  cases hd : double.read x with
  | nan s f => rw [hd] at h; exact absurd rfl h
  | infinity s => simp [Datum.order]
  | number s m i => simp [Datum.order]

theorem order_nan {x : Nat} (h : nan x) : double.order x x = none := by
  unfold nan at h
  unfold Format.order
  cases hd : double.read x with
  | nan s f => simp [Datum.order]
  | infinity s => rw [hd] at h; cases h
  | number s m i => rw [hd] at h; cases h

theorem same_nan {x y : Nat} (hx : nan x) (hy : nan y) : sameB x y = true := by
  simp [sameB, order_nan hx, order_nan hy]

theorem same_of_E {x y : Nat} (h : E x y) : sameB x y = true := by
  rcases h with rfl | ⟨hx, hy⟩
  · by_cases hn : nan x
    · exact same_nan hn hn
    · simp [sameB, order_self hn]
  · exact same_nan hx hy

theorem same_zero {x y : Nat} (hx : zero x) (hy : zero y) : sameB x y = true := by
  obtain ⟨s, hs⟩ := hx
  obtain ⟨t, ht⟩ := hy
  have e : double.order x y = some .eq := by
    unfold Format.order
    rw [hs, ht]
    cases s <;> cases t <;> simp [Datum.order, signed]
  simp [sameB, e]

theorem E.refl (x : Nat) : E x x := .inl rfl
theorem E.symm {x y : Nat} (h : E x y) : E y x := by
  rcases h with rfl | ⟨a, b⟩
  · exact .inl rfl
  · exact .inr ⟨b, a⟩

theorem FR.det {op : BinOp} {x y r r' : Nat} (h : FR op x y r) (h' : FR op x y r') : E r r' := by
  rcases h with h | ⟨h, n⟩ <;> rcases h' with h' | ⟨h', n'⟩
  · rw [h] at h'; cases h'; exact .inl rfl
  · rw [h] at h'; cases h'
  · rw [h] at h'; cases h'
  · exact .inr ⟨n, n'⟩

theorem add_nan_left {x y : Nat} (h : nan x) : floatBits .add .f64 x y = none := by
  unfold nan at h
  show ((double.read x).sum (double.read y)).map double.write = none
  cases hd : double.read x with
  | nan s f => simp [Datum.sum]
  | infinity s => rw [hd] at h; cases h
  | number s m i => rw [hd] at h; cases h
theorem add_nan_right {x y : Nat} (h : nan y) : floatBits .add .f64 x y = none := by
  unfold nan at h
  show ((double.read x).sum (double.read y)).map double.write = none
  cases hd : double.read y with
  | nan s f => cases double.read x <;> simp [Datum.sum]
  | infinity s => rw [hd] at h; cases h
  | number s m i => rw [hd] at h; cases h
theorem mul_nan_left {x y : Nat} (h : nan x) : floatBits .mul .f64 x y = none := by
  unfold nan at h
  show ((double.read x).product (double.read y)).map double.write = none
  cases hd : double.read x with
  | nan s f => simp [Datum.product]
  | infinity s => rw [hd] at h; cases h
  | number s m i => rw [hd] at h; cases h
theorem mul_nan_right {x y : Nat} (h : nan y) : floatBits .mul .f64 x y = none := by
  unfold nan at h
  show ((double.read x).product (double.read y)).map double.write = none
  cases hd : double.read y with
  | nan s f => cases double.read x <;> simp [Datum.product]
  | infinity s => rw [hd] at h; cases h
  | number s m i => rw [hd] at h; cases h
theorem quo_nan_left {x y : Nat} (h : nan x) : floatBits .quo .f64 x y = none := by
  unfold nan at h
  show ((double.read x).quotient _ (double.read y)).map double.write = none
  cases hd : double.read x with
  | nan s f => simp [Datum.quotient]
  | infinity s => rw [hd] at h; cases h
  | number s m i => rw [hd] at h; cases h

theorem FR.nan_of_none {op : BinOp} {x y r : Nat} (h : FR op x y r) (e : floatBits op .f64 x y = none) : nan r := by
  rcases h with h | ⟨_, n⟩
  · rw [e] at h; cases h
  · exact n

theorem FR.add_congr {x x' y y' r r' : Nat} (hx : E x x') (hy : E y y') (h : FR .add x y r) (h' : FR .add x' y' r') : E r r' := by
  rcases hx with rfl | ⟨a, b⟩
  · rcases hy with rfl | ⟨a, b⟩
    · exact h.det h'
    · exact .inr ⟨h.nan_of_none (add_nan_right a), h'.nan_of_none (add_nan_right b)⟩
  · exact .inr ⟨h.nan_of_none (add_nan_left a), h'.nan_of_none (add_nan_left b)⟩
theorem FR.mul_congr {x x' y y' r r' : Nat} (hx : E x x') (hy : E y y') (h : FR .mul x y r) (h' : FR .mul x' y' r') : E r r' := by
  rcases hx with rfl | ⟨a, b⟩
  · rcases hy with rfl | ⟨a, b⟩
    · exact h.det h'
    · exact .inr ⟨h.nan_of_none (mul_nan_right a), h'.nan_of_none (mul_nan_right b)⟩
  · exact .inr ⟨h.nan_of_none (mul_nan_left a), h'.nan_of_none (mul_nan_left b)⟩
theorem FR.quo_congr {x x' y r r' : Nat} (hx : E x x') (h : FR .quo x y r) (h' : FR .quo x' y r') : E r r' := by
  rcases hx with rfl | ⟨a, b⟩
  · exact h.det h'
  · exact .inr ⟨h.nan_of_none (quo_nan_left a), h'.nan_of_none (quo_nan_left b)⟩

/-! ### the format, in numbers -/
theorem lp_eq : double.leastPlace = -1074 := by decide
theorem bin_eq : double.binade = 4503599627370496 := by decide
theorem inf_eq : double.infRung = 9218868437227405312 := by decide
theorem sw_eq : double.signWeight = 9223372036854775808 := by decide

theorem cut_exact (neg : Bool) (m d : Nat) (hm : m ≠ 0) : Toward.even.cut neg (m * 2 ^ d) d = m := by
  have h1 : d ≤ (m * 2 ^ d).log2 := by
    rw [Nat.le_log2 (by have := Nat.two_pow_pos d; exact Nat.mul_ne_zero hm (by omega))]
    exact Nat.le_mul_of_pos_left _ (Nat.pos_of_ne_zero hm)
  have h2 : min d ((m * 2 ^ d).log2 + 2) = d := by omega
  have hp := Nat.two_pow_pos d
  unfold Toward.cut
  simp only [h2, Nat.shiftLeft_eq, Nat.one_mul, Nat.mul_div_cancel _ hp, Nat.mul_mod_left]
  simp

/-- A number that is not nought, at the least place: written, it is the word that it was. -/
theorem nearest_sub (neg : Bool) (r : Nat) (h0 : r ≠ 0) (h1 : r < 4503599627370496) : double.nearest neg r (-1074) = double.word neg r := by
  have hl : r.log2 < 52 := (Nat.log2_lt h0).2 (by omega)
  unfold Format.nearest
  rw [if_neg h0]
  have e : max ((-1074 : Int) + (r.log2 : Nat) - (double.fractionBits : Nat)) double.leastPlace = -1074 := by
    rw [lp_eq]
    show max ((-1074 : Int) + (r.log2 : Nat) - ((52 : Nat) : Int)) (-1074) = -1074
    omega
  simp only [e]
  have c := cut_exact neg r 0 h0
  simp only [Nat.pow_zero, Nat.mul_one] at c
  rw [lp_eq]
  simp only [Int.sub_self, Int.toNat_zero, Nat.shiftLeft_zero, c, Nat.zero_mul, Nat.zero_add]
  rw [inf_eq, Nat.min_eq_left (by omega)]

theorem nearest_norm (neg : Bool) (m d : Nat) (h0 : 4503599627370496 ≤ m) (h1 : m < 9007199254740992) (h2 : d < 2046) : double.nearest neg (m * 2 ^ d) (-1074) = double.word neg (d * 4503599627370496 + m) := by
  have hp := Nat.two_pow_pos d
  have hm0 : m * 2 ^ d ≠ 0 := Nat.mul_ne_zero (by omega) (by omega)
  have hl : (m * 2 ^ d).log2 = 52 + d := by
    rw [Nat.log2_eq_iff hm0]
    constructor
    · rw [Nat.pow_add]
      exact Nat.mul_le_mul_right _ (by omega)
    · have : (2 : Nat) ^ (52 + d + 1) = 9007199254740992 * 2 ^ d := by
        rw [show 52 + d + 1 = 53 + d by omega, Nat.pow_add]
      rw [this]
      exact Nat.mul_lt_mul_of_pos_right h1 hp
  unfold Format.nearest
  rw [if_neg hm0]
  have e : max ((-1074 : Int) + ((m * 2 ^ d).log2 : Nat) - (double.fractionBits : Nat)) double.leastPlace = -1074 + (d : Int) := by
    rw [lp_eq, hl]
    show max ((-1074 : Int) + ((52 + d : Nat) : Int) - ((52 : Nat) : Int)) (-1074) = -1074 + (d : Int)
    omega
  simp only [e]
  have t1 : (-1074 - (-1074 + (d : Int))).toNat = 0 := by omega
  have t2 : (-1074 + (d : Int) - -1074).toNat = d := by omega
  rw [lp_eq, t1, t2, Nat.shiftLeft_zero, cut_exact neg m d (by omega), bin_eq, inf_eq, Nat.min_eq_left (by omega)]

/-- Every word below 2 ^ 64 is its sign and its rung. -/
theorem word_of (x : Nat) (h : x < 18446744073709551616) : double.word (x / 9223372036854775808 % 2 == 1) (x % 9223372036854775808) = x := by
  unfold Format.word
  rw [sw_eq]
  split
  · rename_i e
    have e' : x / 9223372036854775808 % 2 = 1 := by simpa using e
    omega
  · rename_i e
    have e' : ¬ x / 9223372036854775808 % 2 = 1 := by simpa using e
    omega

theorem signed_natAbs (s : Bool) (m u : Nat) : (signed s m u).natAbs = m * 2 ^ u := by
  unfold signed
  rw [Nat.shiftLeft_eq]
  split
  · rw [Int.natAbs_neg, Int.natAbs_natCast]
  · rw [Int.natAbs_natCast]

theorem signed_zero (s : Bool) (u : Nat) : signed s 0 u = 0 := by
  unfold signed
  cases s <;> simp [Nat.shiftLeft_eq]

theorem signed_neg (s : Bool) (m u : Nat) (hm : m ≠ 0) : decide (signed s m u < 0) = s := by
  have hp := Nat.two_pow_pos u
  have hpos : 0 < m * 2 ^ u := Nat.mul_pos (Nat.pos_of_ne_zero hm) hp
  unfold signed
  rw [Nat.shiftLeft_eq]
  cases s
  · simp only [Bool.false_eq_true, if_false, decide_eq_false_iff_not]; omega
  · simp only [if_true, decide_eq_true_eq]; omega

theorem word_zero (s : Bool) : double.read (double.word s 0) = .number s 0 double.leastPlace := by
  cases s <;> decide

theorem write_zero (s : Bool) (j : Int) : double.write (.number s 0 j) = double.word s 0 := by
  simp [Format.write, Format.nearest]

theorem zero_write (s : Bool) (j : Int) : zero (double.write (.number s 0 j)) := ⟨s, by rw [write_zero, word_zero]⟩

/-- A ZERO AND WHATEVER NUMBER: the number; two zeros: a zero. -/
theorem zero_add {z x r : Nat} (hz : zero z) (hx : x < 18446744073709551616) (h : FR .add z x r) : (nan x ∧ nan r) ∨ r = x ∨ (zero x ∧ zero r) := by
  obtain ⟨s, hs⟩ := hz
  have hb : floatBits .add .f64 z x = ((Datum.number s 0 double.leastPlace).sum (double.read x)).map double.write := by
    show ((double.read z).sum (double.read x)).map double.write = _
    rw [hs]
  have hw := word_of x hx
  unfold FR at h
  rw [hb] at h
  have hread : double.read x = (if x % 9223372036854775808 < 4503599627370496 then Datum.number (x / 9223372036854775808 % 2 == 1) (x % 9223372036854775808) (-1074)
      else if x % 9223372036854775808 < 9218868437227405312 then Datum.number (x / 9223372036854775808 % 2 == 1) (4503599627370496 + x % 9223372036854775808 % 4503599627370496) (-1074 + ((x % 9223372036854775808 / 4503599627370496 - 1 : Nat) : Int))
      else if x % 9223372036854775808 = 9218868437227405312 then Datum.infinity (x / 9223372036854775808 % 2 == 1)
      else Datum.nan (x / 9223372036854775808 % 2 == 1) (x % 9223372036854775808 - 9218868437227405312)) := by
    unfold Format.read
    rw [sw_eq, bin_eq, inf_eq, lp_eq]
  generalize hsg : (x / 9223372036854775808 % 2 == 1) = sg at hw hread
  generalize hrg : x % 9223372036854775808 = rg at hw hread
  by_cases c1 : rg < 4503599627370496
  · rw [if_pos c1] at hread
    rw [hread] at h
    by_cases c0 : rg = 0
    · subst c0
      right; right
      refine ⟨⟨sg, by rw [hread, lp_eq]⟩, ?_⟩
      simp only [Datum.sum, signed_zero, Option.map_some, Int.add_zero, if_true, Int.natAbs_zero] at h
      rcases h with h | ⟨h, _⟩
      · cases h; exact zero_write _ _
      · cases h
    · right; left
      rw [lp_eq] at h
      have t0 : signed sg rg 0 ≠ 0 := by
        intro e
        have := signed_natAbs sg rg 0
        rw [e] at this
        simp at this
        exact c0 this.symm
      simp only [Datum.sum, signed_zero, Option.map_some, Int.zero_add, Int.sub_self, Int.min_self, Int.toNat_zero, if_neg t0, signed_natAbs, signed_neg _ _ _ c0, Nat.pow_zero, Nat.mul_one] at h
      rcases h with h | ⟨h, _⟩
      · cases h
        show double.nearest sg rg (-1074) = x
        rw [nearest_sub sg rg c0 c1, hw]
      · cases h
  · rw [if_neg c1] at hread
    by_cases c2 : rg < 9218868437227405312
    · rw [if_pos c2] at hread
      rw [hread] at h
      right; left
      rw [lp_eq] at h
      generalize hm : 4503599627370496 + rg % 4503599627370496 = m at h
      generalize hd : rg / 4503599627370496 - 1 = d at h
      have hm0 : m ≠ 0 := by omega
      have b1 : min (-1074 : Int) (-1074 + (d : Int)) = -1074 := by omega
      have b2 : (-1074 + (d : Int) - -1074).toNat = d := by omega
      have t0 : signed sg m d ≠ 0 := by
        intro e
        have := signed_natAbs sg m d
        rw [e] at this
        have hp := Nat.two_pow_pos d
        have : m * 2 ^ d ≠ 0 := Nat.mul_ne_zero hm0 (by omega)
        simp_all
      simp only [Datum.sum, b1, b2, signed_zero, Option.map_some, Int.zero_add, if_neg t0, signed_natAbs, signed_neg _ _ _ hm0] at h
      rcases h with h | ⟨h, _⟩
      · cases h
        show double.nearest sg (m * 2 ^ d) (-1074) = x
        rw [nearest_norm sg m d (by omega) (by omega) (by omega), show d * 4503599627370496 + m = rg by omega, hw]
      · cases h
    · rw [if_neg c2] at hread
      by_cases c3 : rg = 9218868437227405312
      · rw [if_pos c3] at hread
        rw [hread] at h
        right; left
        simp only [Datum.sum, Option.map_some] at h
        rcases h with h | ⟨h, _⟩
        · cases h
          show double.word sg double.infRung = x
          rw [inf_eq, ← c3, hw]
        · cases h
      · rw [if_neg c3] at hread
        left
        refine ⟨by unfold nan; rw [hread]; rfl, ?_⟩
        rw [hread] at h
        simp only [Datum.sum, Option.map_none] at h
        rcases h with h | ⟨_, h⟩
        · cases h
        · exact h

/-- WHATEVER AND A ZERO OF EITHER SIGN: the two sums are equal. -/
theorem add_zeros {k x y r r' : Nat} (hx : zero x) (hy : zero y) (h : FR .add k x r) (h' : FR .add k y r') : sameB r r' = true := by
  obtain ⟨s, hs⟩ := hx
  obtain ⟨t, ht⟩ := hy
  have e1 : floatBits .add .f64 k x = ((double.read k).sum (.number s 0 double.leastPlace)).map double.write := by
    show ((double.read k).sum (double.read x)).map double.write = _
    rw [hs]
  have e2 : floatBits .add .f64 k y = ((double.read k).sum (.number t 0 double.leastPlace)).map double.write := by
    show ((double.read k).sum (double.read y)).map double.write = _
    rw [ht]
  unfold FR at h h'
  rw [e1] at h
  rw [e2] at h'
  cases hk : double.read k with
  | nan u f =>
    rw [hk] at h h'
    simp only [Datum.sum, Option.map_none] at h h'
    rcases h with h | ⟨_, h⟩
    · cases h
    · rcases h' with h' | ⟨_, h'⟩
      · cases h'
      · exact same_nan h h'
  | infinity u =>
    rw [hk] at h h'
    simp only [Datum.sum, Option.map_some] at h h'
    rcases h with h | ⟨h, _⟩
    · rcases h' with h' | ⟨h', _⟩
      · rw [h] at h'; cases h'; exact same_of_E (.refl _)
      · cases h'
    · cases h
  | number u m i =>
    rw [hk] at h h'
    simp only [Datum.sum, Option.map_some, signed_zero, Int.add_zero] at h h'
    by_cases t0 : signed u m (i - min i double.leastPlace).toNat = 0
    · rw [t0] at h h'
      simp only [if_true, Int.natAbs_zero] at h h'
      rcases h with h | ⟨h, _⟩
      · rcases h' with h' | ⟨h', _⟩
        · cases h; cases h'; exact same_zero (zero_write _ _) (zero_write _ _)
        · cases h'
      · cases h
    · simp only [if_neg t0] at h h'
      rcases h with h | ⟨h, _⟩
      · rcases h' with h' | ⟨h', _⟩
        · rw [h] at h'; cases h'; exact same_of_E (.refl _)
        · cases h'
      · cases h

/-- A finite number: neither a NaN nor an infinity. -/
def fin (k : Nat) : Prop := ∃ s m i, double.read k = .number s m i

theorem mul_zero {k r : Nat} (hk : fin k) (h : FR .mul k 0 r) : zero r := by
  obtain ⟨s, m, i, hk⟩ := hk
  have e0 : double.read 0 = .number false 0 double.leastPlace := by decide
  have e1 : floatBits .mul .f64 k 0 = ((Datum.number s m i).product (.number false 0 double.leastPlace)).map double.write := by
    show ((double.read k).product (double.read 0)).map double.write = _
    rw [hk, e0]
  unfold FR at h
  rw [e1] at h
  simp only [Datum.product, Option.map_some, Nat.mul_zero] at h
  rcases h with h | ⟨h, _⟩
  · cases h; exact zero_write _ _
  · cases h

/-- Go's test 'k >= -max && k <= max', as the walk writes it. -/
theorem fin_of_tests {k : Nat} (h1 : (double.order k 18442240474082181119 == some .gt || double.order k 18442240474082181119 == some .eq) = true)
    (h2 : (double.order k 9218868437227405311 == some .lt || double.order k 9218868437227405311 == some .eq) = true) : fin k := by
  have r1 : ∃ m i, double.read 18442240474082181119 = .number true m i := ⟨9007199254740991, 971, by decide⟩
  have r2 : ∃ m i, double.read 9218868437227405311 = .number false m i := ⟨9007199254740991, 971, by decide⟩
  obtain ⟨m1, i1, r1⟩ := r1
  obtain ⟨m2, i2, r2⟩ := r2
  unfold Format.order at h1 h2
  rw [r1] at h1
  rw [r2] at h2
  cases hk : double.read k with
  | nan u f => rw [hk] at h1; simp [Datum.order] at h1
  | infinity u => rw [hk] at h1 h2; cases u <;> simp [Datum.order] at h1 h2
  | number u m i => exact ⟨u, m, i, hk⟩

theorem fin_one : fin 4607182418800017408 := ⟨false, 4503599627370496, -52, by decide⟩

/-! ### what a request's work may be: 'Work', in words of 'FR' -/
def WR (b g p m r : Nat) : Prop :=
  ((double.order m 0 == some .eq) = true ∧ ∃ s, FR .add b g s ∧ FR .mul s p r) ∨
  ((double.order m 0 == some .eq) = false ∧ ∃ u v, FR .add p m u ∧ FR .mul g u v ∧ FR .add b v r)

theorem order_zero_E {m m' : Nat} (h : E m m') : (double.order m 0 == some .eq) = (double.order m' 0 == some .eq) := by
  rcases h with rfl | ⟨a, b⟩
  · rfl
  · have e : ∀ {x : Nat}, nan x → double.order x 0 = none := fun {x} hx => by
      unfold nan at hx
      unfold Format.order
      cases hd : double.read x with
      | nan s f => simp [Datum.order]
      | infinity s => rw [hd] at hx; cases hx
      | number s m i => rw [hd] at hx; cases hx
    rw [e a, e b]

theorem WR.congr {b g p m m' r r' : Nat} (hm : E m m') (h : WR b g p m r) (h' : WR b g p m' r') : E r r' := by
  have ho := order_zero_E hm
  rcases h with ⟨c, s, h1, h2⟩ | ⟨c, u, v, h1, h2, h3⟩
  · rcases h' with ⟨c', s', h1', h2'⟩ | ⟨c', _⟩
    · exact h2.mul_congr (h1.det h1') (.refl _) h2'
    · rw [← ho, c] at c'; cases c'
  · rcases h' with ⟨c', _⟩ | ⟨c', u', v', h1', h2', h3'⟩
    · rw [← ho, c] at c'; cases c'
    · exact h3.add_congr (.refl _) (h2.mul_congr (.refl _) (h1.add_congr (.refl _) hm h1') h2') h3'

/-- The half of what is made: '(o + 1) / 2'. -/
def HR (o m : Nat) : Prop := ∃ a, FR .add o 4607182418800017408 a ∧ FR .quo a 4611686018427387904 m

theorem HR.det {o m m' : Nat} (h : HR o m) (h' : HR o m') : E m m' := by
  obtain ⟨a, h1, h2⟩ := h
  obtain ⟨a', h1', h2'⟩ := h'
  exact h2.quo_congr (h1.det h1') h2'

/-- What 'overhead' may hand back. -/
def OR (b g p o t i : Nat) : Prop := WR b g p 0 t ∧ (∃ m, HR o m ∧ WR b g p m i) ∧ t < 18446744073709551616 ∧ i < 18446744073709551616

theorem OR.det {b g p o t i t' i' : Nat} (h : OR b g p o t i) (h' : OR b g p o t' i') : E t t' ∧ E i i' := by
  obtain ⟨h1, ⟨m, h2, h3⟩, _⟩ := h
  obtain ⟨h1', ⟨m', h2', h3'⟩, _⟩ := h'
  exact ⟨h1.congr (.refl _) h1', h3.congr (h2.det h2') h3'⟩

/-- THE LAW's CORE: z a zero, x and x' equal: 'ka + x' is the same as 'ka + (z + x')'. -/
theorem core {ka ka' z x x' r t q : Nat} (hka : E ka ka') (hz : zero z) (hx : E x x') (hb : x' < 18446744073709551616) (h1 : FR .add ka x r) (h2 : FR .add z x' t) (h3 : FR .add ka' t q) : sameB r q = true := by
  rcases zero_add hz hb h2 with ⟨nx, nt⟩ | rfl | ⟨zx, zt⟩
  · have hxn : nan x := by
      rcases hx with rfl | ⟨a, _⟩
      · exact nx
      · exact a
    exact same_nan (h1.nan_of_none (add_nan_right hxn)) (h3.nan_of_none (add_nan_right nt))
  · exact same_of_E (h1.add_congr hka hx h3)
  · have hxe : x = x' := by
      rcases hx with rfl | ⟨_, b⟩
      · rfl
      · obtain ⟨s, hs⟩ := zx
        unfold nan at b
        rw [hs] at b
        cases b
    subst hxe
    rcases hka with rfl | ⟨a, b⟩
    · exact add_zeros zx zt h1 h3
    · exact same_nan (h1.nan_of_none (add_nan_left a)) (h3.nan_of_none (add_nan_left b))

theorem core0 {z z' x x' t t' : Nat} (hz : zero z) (hz' : zero z') (hx : E x x') (hb : x < 18446744073709551616) (hb' : x' < 18446744073709551616) (h1 : FR .add z x t) (h2 : FR .add z' x' t') : sameB t t' = true := by
  have nz : ∀ {y : Nat}, zero y → nan y → False := fun {y} a b => by
    obtain ⟨s, hs⟩ := a
    unfold nan at b
    rw [hs] at b
    cases b
  rcases zero_add hz hb h1 with ⟨nx, nt⟩ | rfl | ⟨zx, zt⟩ <;> rcases zero_add hz' hb' h2 with ⟨nx', nt'⟩ | rfl | ⟨zx', zt'⟩
  · exact same_nan nt nt'
  · rcases hx with rfl | ⟨_, b⟩
    · exact same_nan nt nx
    · exact same_nan nt b
  · rcases hx with rfl | ⟨_, b⟩
    · exact absurd nx (nz zx')
    · exact absurd b (nz zx')
  · rcases hx with rfl | ⟨a, _⟩
    · exact same_nan nx' nt'
    · exact same_nan a nt'
  · exact same_of_E hx
  · rcases hx with rfl | ⟨_, b⟩
    · exact same_zero zx' zt'
    · exact absurd b (nz zx')
  · rcases hx with rfl | ⟨a, _⟩
    · exact absurd nx' (nz zx)
    · exact absurd a (nz zx)
  · rcases hx with rfl | ⟨a, _⟩
    · exact same_zero zt zx
    · exact absurd a (nz zx)
  · exact same_zero zt zt'

end Go.Proofs.Qxb6616959a.Fl
