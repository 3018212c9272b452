/-
  Plain facts on IEEE doubles, further: rounding is monotone and leaves a word's own value; sums and products compare as words do; whole numbers. No Go in sight.
-/
import Derived.Test.Qxb6000633aIeee
namespace Go.Proofs.Qxb6000633a
open Ieee

/-! ### the cut -/

theorem cut_eq (n d : Nat) (h : d ≤ n.log2 + 2) : Toward.even.cut false n d = n / 2 ^ d + (decide (2 ^ d < 2 * (n % 2 ^ d)) || (2 ^ d == 2 * (n % 2 ^ d) && n / 2 ^ d % 2 == 1)).toNat := by
  unfold Toward.cut
  have e : min d (n.log2 + 2) = d := by omega
  simp only [e, Nat.one_shiftLeft]

/-- past all digits nothing is left -/
theorem cut_far (n d : Nat) (h : n.log2 + 2 ≤ d) : Toward.even.cut false n d = 0 := by
  unfold Toward.cut
  have e : min d (n.log2 + 2) = n.log2 + 2 := by omega
  simp only [e, Nat.one_shiftLeft]
  have h1 : n < 2 ^ (n.log2 + 1) := Nat.lt_log2_self
  have h2 : 2 ^ (n.log2 + 2) = 2 * 2 ^ (n.log2 + 1) := by rw [Nat.pow_succ, Nat.mul_comm]
  have h3 : n / 2 ^ (n.log2 + 2) = 0 := Nat.div_eq_of_lt (by omega)
  have h4 : n % 2 ^ (n.log2 + 2) = n := Nat.mod_eq_of_lt (by omega)
  rw [h3, h4]
  have h5 : decide (2 ^ (n.log2 + 2) < 2 * n) = false := decide_eq_false (by omega)
  have h6 : (2 ^ (n.log2 + 2) == 2 * n) = false := beq_eq_false_iff_ne.2 (by omega)
  rw [h5, h6]
  rfl

/-- the plain rounding to n / 2^d -/
def rnd (n d : Nat) : Nat := n / 2 ^ d + (decide (2 ^ d < 2 * (n % 2 ^ d)) || (2 ^ d == 2 * (n % 2 ^ d) && n / 2 ^ d % 2 == 1)).toNat

theorem rnd_far (n d : Nat) (h : n.log2 + 2 ≤ d) : rnd n d = 0 := by
  have h1 : n < 2 ^ (n.log2 + 1) := Nat.lt_log2_self
  have h2 : 2 ^ (n.log2 + 1) * 2 ≤ 2 ^ d := by
    have : 2 ^ (n.log2 + 1) * 2 = 2 ^ (n.log2 + 2) := by rw [← Nat.pow_succ]
    rw [this]
    exact Nat.pow_le_pow_right (by omega) h
  unfold rnd
  have h3 : n / 2 ^ d = 0 := Nat.div_eq_of_lt (by omega)
  have h4 : n % 2 ^ d = n := Nat.mod_eq_of_lt (by omega)
  rw [h3, h4]
  have h5 : decide (2 ^ d < 2 * n) = false := decide_eq_false (by omega)
  have h6 : (2 ^ d == 2 * n) = false := beq_eq_false_iff_ne.2 (by omega)
  rw [h5, h6]
  rfl

theorem cut_rnd (n d : Nat) : Toward.even.cut false n d = rnd n d := by
  by_cases h : d ≤ n.log2 + 2
  · exact cut_eq n d h
  · rw [cut_far n d (by omega), rnd_far n d (by omega)]

theorem toNat_le_one (b : Bool) : b.toNat ≤ 1 := by cases b <;> decide

theorem rnd_mono {a b : Nat} (d : Nat) (h : a ≤ b) : rnd a d ≤ rnd b d := by
  unfold rnd
  have hq : a / 2 ^ d ≤ b / 2 ^ d := Nat.div_le_div_right h
  rcases Nat.lt_or_ge (a / 2 ^ d) (b / 2 ^ d) with hlt | hge
  · have := toNat_le_one (decide (2 ^ d < 2 * (a % 2 ^ d)) || (2 ^ d == 2 * (a % 2 ^ d) && a / 2 ^ d % 2 == 1))
    omega
  · have e : a / 2 ^ d = b / 2 ^ d := by omega
    have hr : a % 2 ^ d ≤ b % 2 ^ d := by
      have h1 := Nat.div_add_mod a (2 ^ d)
      have h2 := Nat.div_add_mod b (2 ^ d)
      rw [e] at h1
      omega
    rw [e]
    generalize b / 2 ^ d = q
    generalize a % 2 ^ d = x at *
    generalize b % 2 ^ d = y at *
    generalize 2 ^ d = g
    refine Nat.add_le_add_left ?_ q
    by_cases hb : g < 2 * y
    · rw [decide_eq_true hb, Bool.true_or]
      exact toNat_le_one _
    · have ha : ¬ g < 2 * x := by omega
      rw [decide_eq_false hb, decide_eq_false ha, Bool.false_or, Bool.false_or]
      by_cases hx : g = 2 * x
      · have hy : g = 2 * y := by omega
        rw [beq_iff_eq.2 hx, beq_iff_eq.2 hy]
        exact Nat.le_refl _
      · rw [beq_eq_false_iff_ne.2 hx]
        exact Nat.zero_le _

theorem rnd_zero (n : Nat) : rnd n 0 = n := by
  unfold rnd
  simp [Nat.mod_one]

theorem rnd_scale (n d e : Nat) : rnd (n * 2 ^ e) (d + e) = rnd n d := by
  unfold rnd
  have hp : 0 < 2 ^ e := Nat.two_pow_pos e
  have e1 : n * 2 ^ e / 2 ^ (d + e) = n / 2 ^ d := by rw [Nat.pow_add, Nat.mul_div_mul_right _ _ hp]
  have e2 : n * 2 ^ e % 2 ^ (d + e) = n % 2 ^ d * 2 ^ e := by rw [Nat.pow_add, Nat.mul_mod_mul_right]
  rw [e1, e2, Nat.pow_add]
  have e3 : 2 * (n % 2 ^ d * 2 ^ e) = 2 * (n % 2 ^ d) * 2 ^ e := by rw [Nat.mul_assoc]
  rw [e3]
  have e4 : decide (2 ^ d * 2 ^ e < 2 * (n % 2 ^ d) * 2 ^ e) = decide (2 ^ d < 2 * (n % 2 ^ d)) := by
    by_cases h : 2 ^ d < 2 * (n % 2 ^ d)
    · rw [decide_eq_true h, decide_eq_true (Nat.mul_lt_mul_of_pos_right h hp)]
    · rw [decide_eq_false h, decide_eq_false]
      exact Nat.not_lt.2 (Nat.mul_le_mul_right _ (Nat.not_lt.1 h))
  have e5 : (2 ^ d * 2 ^ e == 2 * (n % 2 ^ d) * 2 ^ e) = (2 ^ d == 2 * (n % 2 ^ d)) := by
    by_cases h : 2 ^ d = 2 * (n % 2 ^ d)
    · rw [beq_iff_eq.2 h, beq_iff_eq.2 (congrArg (· * 2 ^ e) h)]
    · rw [beq_eq_false_iff_ne.2 h, beq_eq_false_iff_ne.2 (fun h' => h (Nat.eq_of_mul_eq_mul_right hp h'))]
  rw [e4, e5]

theorem rnd_exact (m d : Nat) : rnd (m * 2 ^ d) d = m := by
  have := rnd_scale m 0 d
  rw [Nat.zero_add, rnd_zero] at this
  exact this

theorem rnd_le {n d q : Nat} (h : n ≤ q * 2 ^ d) : rnd n d ≤ q := by
  have := rnd_mono d h
  rw [rnd_exact] at this
  exact this
theorem rnd_ge {n d q : Nat} (h : q * 2 ^ d ≤ n) : q ≤ rnd n d := by
  have := rnd_mono d h
  rw [rnd_exact] at this
  exact this

/-! ### nearest, at any place -/

/-- the place of the last digit kept -/
def lst (m : Nat) (p : Int) : Int := max (p + (m.log2 : Int) - 52) (-1074)
/-- the digits kept -/
def kept (m : Nat) (p L : Int) : Nat := rnd (m <<< (p - L).toNat) (L - p).toNat

theorem nearest_form {m : Nat} {p : Int} (hm : m ≠ 0) : double.nearest false m p = min ((lst m p + 1074).toNat * 4503599627370496 + kept m p (lst m p)) 9218868437227405312 := by
  rw [nearest_eq hm (lst m p) rfl, cut_rnd]
  rfl

theorem nearest_zero (p : Int) : double.nearest false 0 p = 0 := by
  unfold Format.nearest
  rw [if_pos rfl]
  rfl

theorem two52 : (4503599627370496 : Nat) = 2 ^ 52 := by decide

theorem log2_bounds {m : Nat} (hm : m ≠ 0) : 2 ^ m.log2 ≤ m ∧ m < 2 ^ (m.log2 + 1) := ⟨Nat.log2_self_le hm, Nat.lt_log2_self⟩

/-- the digits kept are at most 2^53 -/
theorem kept_le {m : Nat} {p L : Int} (hm : m ≠ 0) (h : p + (m.log2 : Int) - 52 ≤ L) : kept m p L ≤ 2 * 4503599627370496 := by
  obtain ⟨h1, h2⟩ := log2_bounds hm
  unfold kept
  refine rnd_le ?_
  rw [Nat.shiftLeft_eq, two52]
  have e : 2 * 2 ^ 52 * 2 ^ (L - p).toNat = 2 ^ (53 + (L - p).toNat) := by rw [← Nat.pow_succ', Nat.pow_add]
  rw [e]
  have h3 : m * 2 ^ (p - L).toNat ≤ 2 ^ (m.log2 + 1) * 2 ^ (p - L).toNat := Nat.mul_le_mul_right _ (Nat.le_of_lt h2)
  rw [← Nat.pow_add] at h3
  refine Nat.le_trans h3 (Nat.pow_le_pow_right (by omega) ?_)
  omega

/-- of a normal number they are at least 2^52 -/
theorem kept_ge {m : Nat} {p L : Int} (hm : m ≠ 0) (h : L ≤ p + (m.log2 : Int) - 52) : 4503599627370496 ≤ kept m p L := by
  obtain ⟨h1, h2⟩ := log2_bounds hm
  unfold kept
  refine rnd_ge ?_
  rw [Nat.shiftLeft_eq, two52, ← Nat.pow_add]
  have h3 : 2 ^ m.log2 * 2 ^ (p - L).toNat ≤ m * 2 ^ (p - L).toNat := Nat.mul_le_mul_right _ h1
  rw [← Nat.pow_add] at h3
  refine Nat.le_trans (Nat.pow_le_pow_right (by omega) ?_) h3
  omega

theorem kept_mono {a b : Nat} (p L : Int) (h : a ≤ b) : kept a p L ≤ kept b p L := by
  unfold kept
  refine rnd_mono _ ?_
  rw [Nat.shiftLeft_eq, Nat.shiftLeft_eq]
  exact Nat.mul_le_mul_right _ h

theorem log2_mono {a b : Nat} (h : a ≤ b) : a.log2 ≤ b.log2 := by
  by_cases ha : a = 0
  · subst ha
    have : Nat.log2 0 = 0 := by decide
    omega
  · have hb : b ≠ 0 := by omega
    exact (Nat.le_log2 hb).2 (Nat.le_trans (Nat.log2_self_le ha) h)

/-- ROUNDING IS MONOTONE -/
theorem nearest_mono {a b : Nat} (p : Int) (h : a ≤ b) : double.nearest false a p ≤ double.nearest false b p := by
  by_cases ha : a = 0
  · subst ha; rw [nearest_zero]; exact Nat.zero_le _
  · have hb : b ≠ 0 := by omega
    rw [nearest_form ha, nearest_form hb]
    have hl := log2_mono h
    have key : (lst a p + 1074).toNat * 4503599627370496 + kept a p (lst a p) ≤ (lst b p + 1074).toNat * 4503599627370496 + kept b p (lst b p) := by
      have hL : lst a p ≤ lst b p := by unfold lst; omega
      by_cases e : lst a p = lst b p
      · rw [e]
        exact Nat.add_le_add_left (kept_mono p _ h) _
      · have h1 := kept_le (m := a) (p := p) (L := lst a p) ha (by unfold lst; omega)
        have h2 := kept_ge (m := b) (p := p) (L := lst b p) hb (by unfold lst at *; omega)
        have h3 : (lst a p + 1074).toNat + 1 ≤ (lst b p + 1074).toNat := by unfold lst at *; omega
        have h4 := Nat.mul_le_mul_right 4503599627370496 h3
        omega
    omega

/-- ROUNDING GOES BY THE VALUE: a factor of two in the number or in the place -/
theorem nearest_scale (m e : Nat) (p : Int) : double.nearest false (m * 2 ^ e) p = double.nearest false m (p + e) := by
  by_cases hm : m = 0
  · subst hm; rw [Nat.zero_mul, nearest_zero, nearest_zero]
  · have hp : 0 < 2 ^ e := Nat.two_pow_pos e
    have hm' : m * 2 ^ e ≠ 0 := Nat.mul_ne_zero hm (by omega)
    rw [nearest_form hm', nearest_form hm]
    have hlog : (m * 2 ^ e).log2 = m.log2 + e := by
      have h1 := log2_bounds hm
      refine (Nat.log2_eq_iff hm').2 ⟨?_, ?_⟩
      · rw [Nat.pow_add]; exact Nat.mul_le_mul_right _ h1.1
      · have : m.log2 + e + 1 = (m.log2 + 1) + e := by omega
        rw [this, Nat.pow_add]; exact Nat.mul_lt_mul_of_pos_right h1.2 hp
    have hL : lst (m * 2 ^ e) p = lst m (p + e) := by unfold lst; rw [hlog]; omega
    rw [hL]
    have hk : kept (m * 2 ^ e) p (lst m (p + e)) = kept m (p + e) (lst m (p + e)) := by
      generalize lst m (p + e) = L
      unfold kept
      rw [Nat.shiftLeft_eq, Nat.shiftLeft_eq]
      by_cases h1 : L ≤ p
      · have a1 : (L - p).toNat = 0 := by omega
        have a2 : (L - (p + e)).toNat = 0 := by omega
        have a3 : (p + e - L).toNat = e + (p - L).toNat := by omega
        rw [a1, a2, a3, rnd_zero, rnd_zero, Nat.pow_add, Nat.mul_assoc]
      · by_cases h2 : L ≤ p + e
        · have a1 : (p - L).toNat = 0 := by omega
          have a2 : (L - (p + e)).toNat = 0 := by omega
          have a3 : e = (p + e - L).toNat + (L - p).toNat := by omega
          rw [a1, a2, rnd_zero, Nat.pow_zero, Nat.mul_one]
          have a4 : m * 2 ^ e = m * 2 ^ (p + e - L).toNat * 2 ^ (L - p).toNat := by
            rw [Nat.mul_assoc, ← Nat.pow_add, ← a3]
          rw [a4, rnd_exact]
        · have a1 : (p - L).toNat = 0 := by omega
          have a2 : (p + e - L).toNat = 0 := by omega
          have a3 : (L - p).toNat = (L - (p + e)).toNat + e := by omega
          rw [a1, a2, a3, Nat.pow_zero, Nat.mul_one, Nat.mul_one, rnd_scale]
    rw [hk]

/-! ### finite words not below zero: their value in units of 2^-1074 -/

/-- a finite word that is not negative -/
def FN (x : Nat) : Prop := x < 9218868437227405312

def val (x : Nat) : Nat := if x < 4503599627370496 then x else (4503599627370496 + x % 4503599627370496) * 2 ^ (x / 4503599627370496 - 1)

theorem FN.nn {x : Nat} (h : FN x) : NN x := Nat.le_of_lt h

theorem read_fn {x : Nat} (h : FN x) : ∃ m p, double.read x = .number false m p ∧ -1074 ≤ p ∧ val x = m * 2 ^ (p + 1074).toNat := by
  unfold FN at h
  rw [read_nonneg (by omega)]
  unfold val
  by_cases h1 : x < 4503599627370496
  · rw [if_pos h1, if_pos h1]
    exact ⟨_, _, rfl, by omega, by rw [show ((-1074 : Int) + 1074).toNat = 0 from rfl, Nat.pow_zero, Nat.mul_one]⟩
  · rw [if_neg h1, if_pos h, if_neg h1]
    refine ⟨_, _, rfl, by omega, ?_⟩
    have e : ((-1074 : Int) + ((x / 4503599627370496 - 1 : Nat) : Int) + 1074).toNat = x / 4503599627370496 - 1 := by omega
    rw [e]

/-- the word nearest to so many units -/
def wd (M : Nat) : Nat := double.nearest false M (-1074)

theorem wd_mono {a b : Nat} (h : a ≤ b) : wd a ≤ wd b := nearest_mono _ h
theorem wd_nn (M : Nat) : NN (wd M) := nearest_nn _ _

theorem log2_of {m k : Nat} (h1 : 2 ^ k ≤ m) (h2 : m < 2 ^ (k + 1)) : m.log2 = k :=
  (Nat.log2_eq_iff (by have := Nat.two_pow_pos k; omega)).2 ⟨h1, h2⟩

/-- A WORD's OWN VALUE ROUNDS TO THE WORD -/
theorem wd_val {x : Nat} (h : FN x) : wd (val x) = x := by
  unfold FN at h
  unfold wd
  by_cases h0 : x = 0
  · subst h0
    have : val 0 = 0 := by decide
    rw [this, nearest_zero]
  unfold val
  by_cases h1 : x < 4503599627370496
  · rw [if_pos h1, nearest_form h0]
    have hl : x.log2 < 52 := (Nat.log2_lt h0).2 (by rw [← two52]; exact h1)
    have hL : lst x (-1074) = -1074 := by unfold lst; omega
    rw [hL]
    have e1 : ((-1074 : Int) + 1074).toNat = 0 := rfl
    have e2 : kept x (-1074) (-1074) = x := by
      unfold kept
      have : ((-1074 : Int) - -1074).toNat = 0 := rfl
      rw [this, Nat.shiftLeft_zero, rnd_zero]
    rw [e1, e2]
    omega
  · rw [if_neg h1]
    obtain ⟨q, hq⟩ : ∃ q, x / 4503599627370496 = q + 1 := ⟨x / 4503599627370496 - 1, by omega⟩
    rw [hq]
    have hmod := Nat.div_add_mod x 4503599627370496
    rw [hq] at hmod
    have hr : x % 4503599627370496 < 4503599627370496 := Nat.mod_lt _ (by omega)
    generalize x % 4503599627370496 = r at *
    have e0 : q + 1 - 1 = q := by omega
    rw [e0, nearest_scale]
    have hm : 4503599627370496 + r ≠ 0 := by omega
    rw [nearest_form hm]
    have hl : (4503599627370496 + r).log2 = 52 := log2_of (by rw [← two52]; omega) (by
      have : (2 : Nat) ^ (52 + 1) = 9007199254740992 := by decide
      rw [this]; omega)
    have hL : lst (4503599627370496 + r) (-1074 + (q : Int)) = -1074 + (q : Int) := by unfold lst; rw [hl]; omega
    rw [hL]
    have e2 : kept (4503599627370496 + r) (-1074 + (q : Int)) (-1074 + (q : Int)) = 4503599627370496 + r := by
      unfold kept
      have : (-1074 + (q : Int) - (-1074 + (q : Int))).toNat = 0 := by omega
      rw [this, Nat.shiftLeft_zero, rnd_zero]
    have e3 : (-1074 + (q : Int) + 1074).toNat = q := by omega
    rw [e2, e3]
    omega

theorem val_le {x y : Nat} (hx : FN x) (hy : FN y) (h : val x ≤ val y) : x ≤ y := by
  have := wd_mono h
  rw [wd_val hx, wd_val hy] at this
  exact this
theorem val_lt {x y : Nat} (hx : FN x) (hy : FN y) (h : x < y) : val x < val y := by
  rcases Nat.lt_or_ge (val x) (val y) with h' | h'
  · exact h'
  · have := val_le hy hx h'; omega
theorem val_mono {x y : Nat} (hx : FN x) (hy : FN y) (h : x ≤ y) : val x ≤ val y := by
  rcases Nat.lt_or_ge x y with h' | h'
  · exact Nat.le_of_lt (val_lt hx hy h')
  · have : x = y := by omega
    rw [this]; exact Nat.le_refl _

/-- units at a lower place -/
theorem shift_units {m : Nat} {p b : Int} (h1 : b ≤ p) (h2 : -1074 ≤ b) : m <<< (p - b).toNat * 2 ^ (b + 1074).toNat = m * 2 ^ (p + 1074).toNat := by
  rw [Nat.shiftLeft_eq, Nat.mul_assoc, ← Nat.pow_add]
  have : (p - b).toNat + (b + 1074).toNat = (p + 1074).toNat := by omega
  rw [this]

theorem order_fn {x y : Nat} (hx : FN x) (hy : FN y) : double.order x y = some (compare (val x : Int) (val y : Int)) := by
  obtain ⟨m, p, e1, h1, v1⟩ := read_fn hx
  obtain ⟨n, q, e2, h2, v2⟩ := read_fn hy
  unfold Format.order
  rw [e1, e2]
  simp only [Datum.order, signed, Bool.false_eq_true, if_false]
  have s1 := shift_units (m := m) (p := p) (b := min p q) (by omega) (by omega)
  have s2 := shift_units (m := n) (p := q) (b := min p q) (by omega) (by omega)
  rw [← v1] at s1
  rw [← v2] at s2
  have hp : 0 < 2 ^ (min p q + 1074).toNat := Nat.two_pow_pos _
  generalize m <<< (p - min p q).toNat = a at *
  generalize n <<< (q - min p q).toNat = b at *
  generalize 2 ^ (min p q + 1074).toNat = g at *
  refine congrArg some ?_
  rcases Nat.lt_trichotomy a b with h | h | h
  · have := Nat.mul_lt_mul_of_pos_right h hp
    rw [cmp_lt (by omega), cmp_lt (by omega)]
  · subst h
    rw [cmp_eq rfl, cmp_eq (by omega)]
  · have := Nat.mul_lt_mul_of_pos_right h hp
    rw [cmp_gt (by omega), cmp_gt (by omega)]

theorem order_gt {x y : Nat} (hx : FN x) (hy : FN y) : double.order x y = some .gt ↔ y < x := by
  rw [order_fn hx hy]
  constructor
  · intro h
    rcases Nat.lt_or_ge y x with h' | h'
    · exact h'
    · have := val_mono hx hy h'
      have h2 : compare (val x : Int) (val y : Int) ≠ .gt := by
        rcases Nat.lt_or_ge (val x) (val y) with h3 | h3
        · rw [cmp_lt (by omega)]; decide
        · rw [cmp_eq (by omega)]; decide
      exact absurd (Option.some.inj h) h2
  · intro h
    have := val_lt hy hx h
    rw [cmp_gt (by omega)]

/-- THE SUM OF TWO FINITE WORDS NOT BELOW ZERO -/
theorem add_fn {x y : Nat} (hx : FN x) (hy : FN y) : double.add x y = some (wd (val x + val y)) := by
  obtain ⟨m, p, e1, h1, v1⟩ := read_fn hx
  obtain ⟨n, q, e2, h2, v2⟩ := read_fn hy
  unfold Format.add
  rw [e1, e2]
  simp only [Datum.sum, Option.map_some, signed, Bool.false_eq_true, if_false]
  have s1 := shift_units (m := m) (p := p) (b := min p q) (by omega) (by omega)
  have s2 := shift_units (m := n) (p := q) (b := min p q) (by omega) (by omega)
  rw [← v1] at s1
  rw [← v2] at s2
  generalize m <<< (p - min p q).toNat = a at *
  generalize n <<< (q - min p q).toNat = b at *
  have en : ((a : Int) + (b : Int)).natAbs = a + b := by omega
  have es : (if (a : Int) + (b : Int) = 0 then (false && false) else decide ((a : Int) + (b : Int) < 0)) = false := by
    split
    · rfl
    · exact decide_eq_false (by omega)
  rw [en, es]
  refine congrArg some ?_
  show double.nearest false (a + b) (min p q) = wd (val x + val y)
  unfold wd
  rw [← s1, ← s2, ← Nat.add_mul, nearest_scale]
  congr 1
  omega

theorem add_zero {x : Nat} (hx : FN x) : double.add x 0 = some x := by
  rw [add_fn hx (by unfold FN; omega)]
  have : val 0 = 0 := by decide
  rw [this, Nat.add_zero, wd_val hx]

end Go.Proofs.Qxb6000633a
