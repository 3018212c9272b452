/-
  Plain facts on IEEE doubles for the loadline seat: powers of two are exact; sums of numbers that are not negative are no NaN. No Go in sight.
-/
import Ieee.Arith
namespace Go.Proofs.Qxb6000633a
open Ieee

/-- the bits of 2^-h -/
def pw (h : Nat) : Nat := (1023 - h) * 4503599627370496

theorem dbl_binade : double.binade = 4503599627370496 := rfl
theorem dbl_infRung : double.infRung = 9218868437227405312 := rfl
theorem dbl_signWeight : double.signWeight = 9223372036854775808 := rfl
theorem dbl_least : double.leastPlace = -1074 := rfl
theorem dbl_frac : double.fractionBits = 52 := rfl

/-- reading a word that is not negative -/
theorem read_nonneg {x : Nat} (h : x < 9223372036854775808) : double.read x =
    if x < 4503599627370496 then .number false x (-1074)
    else if x < 9218868437227405312 then .number false (4503599627370496 + x % 4503599627370496) (-1074 + (x / 4503599627370496 - 1 : Nat))
    else if x = 9218868437227405312 then .infinity false
    else .nan false (x - 9218868437227405312) := by
  have e1 : x % double.signWeight = x := Nat.mod_eq_of_lt h
  have e2 : x / double.signWeight = 0 := Nat.div_eq_of_lt h
  simp only [Format.read, e1, e2]
  rfl

theorem read_pw {h : Nat} (hh : h ≤ 1022) : double.read (pw h) = .number false 4503599627370496 (-(52 : Int) - h) := by
  unfold pw
  obtain ⟨q, hq⟩ : ∃ q, 1023 - h = q + 1 := ⟨1022 - h, by omega⟩
  rw [hq, read_nonneg (by omega), if_neg (by omega), if_pos (by omega)]
  have e1 : (q + 1) * 4503599627370496 % 4503599627370496 = 0 := Nat.mul_mod_left _ _
  have e2 : (q + 1) * 4503599627370496 / 4503599627370496 = q + 1 := Nat.mul_div_left _ (by omega)
  rw [e1, e2]
  congr 1
  omega

theorem read_zero : double.read 0 = .number false 0 (-1074) := by
  rw [read_nonneg (by omega), if_pos (by omega)]

theorem log2_pow (n : Nat) : (2 ^ n).log2 = n := Nat.log2_two_pow

theorem cut_exact (m d : Nat) (neg : Bool) (hd : d ≤ (m * 2 ^ d).log2) : Toward.even.cut neg (m * 2 ^ d) d = m := by
  unfold Toward.cut
  have e : min d ((m * 2 ^ d).log2 + 2) = d := by omega
  simp only [e, Nat.one_shiftLeft]
  have hp : 0 < 2 ^ d := Nat.two_pow_pos d
  rw [Nat.mul_div_left _ hp, Nat.mul_mod_left]
  simp

theorem split52 {m : Nat} (h : 52 ≤ m) : 2 ^ m = 4503599627370496 * 2 ^ (m - 52) := by
  have h1 : (4503599627370496 : Nat) = 2 ^ 52 := by decide
  have h2 : 2 ^ m = 2 ^ (52 + (m - 52)) := congrArg (2 ^ ·) (by omega)
  rw [h2, Nat.pow_add, ← h1]

theorem cut52 {m : Nat} (h : 52 ≤ m) : Toward.even.cut false (2 ^ m) (m - 52) = 4503599627370496 := by
  have hl : m - 52 ≤ (4503599627370496 * 2 ^ (m - 52)).log2 := by rw [← split52 h, log2_pow]; omega
  have := cut_exact 4503599627370496 (m - 52) false hl
  rw [← split52 h] at this
  exact this

/-- nearest, its parts named -/
theorem nearest_eq {m : Nat} {p : Int} (hm : m ≠ 0) (last : Int) (hl : last = max (p + (m.log2 : Int) - 52) (-1074)) :
    double.nearest false m p = min ((last + 1074).toNat * 4503599627370496 + Toward.even.cut false (m <<< (p - last).toNat) (last - p).toNat) 9218868437227405312 := by
  unfold Format.nearest
  rw [if_neg hm]
  simp only [dbl_frac, dbl_least, dbl_binade, dbl_infRung, Format.word]
  have e : max (p + (m.log2 : Int) - ((52 : Nat) : Int)) (-1074) = last := by omega
  rw [e]
  have e' : (last - -1074).toNat = (last + 1074).toNat := by omega
  rw [e', if_neg (by decide)]

/-- writing a power of two: exact -/
theorem write_pow {m : Nat} {p : Int} {h : Nat} (hh : h ≤ 1022) (e : (m : Int) + p = -(h : Int)) (hm : 52 ≤ m) : double.write (.number false (2 ^ m) p) = pw h := by
  have hp : 0 < 2 ^ m := Nat.two_pow_pos m
  have h1 := nearest_eq (m := 2 ^ m) (p := p) (by omega) (-(h : Int) - 52) (by rw [log2_pow]; omega)
  have e2 : (p - (-(h : Int) - 52)).toNat = 0 := by omega
  have e3 : (-(h : Int) - 52 - p).toNat = m - 52 := by omega
  have e4 : (-(h : Int) - 52 + 1074).toNat = 1022 - h := by omega
  rw [e2, e3, e4, Nat.shiftLeft_zero, cut52 hm] at h1
  refine (show double.write (.number false (2 ^ m) p) = double.nearest false (2 ^ m) p from rfl).trans (h1.trans ?_)
  unfold pw
  omega

theorem mul_pw {a b : Nat} (h : a + b ≤ 1022) : double.mul (pw a) (pw b) = some (pw (a + b)) := by
  unfold Format.mul
  rw [read_pw (by omega), read_pw (by omega)]
  show some (double.write (.number (false ^^ false) (4503599627370496 * 4503599627370496) _)) = _
  have e : 4503599627370496 * 4503599627370496 = 2 ^ 104 := by decide
  rw [e]
  show some (double.write (.number false (2 ^ 104) _)) = _
  rw [write_pow (h := a + b) h (by omega) (by omega)]

theorem div_pw {a b : Nat} (hb : b ≤ a) (h : a ≤ 1022) : double.div (pw a) (pw b) = some (pw (a - b)) := by
  unfold Format.div
  rw [read_pw (by omega), read_pw (by omega)]
  have hl : (4503599627370496 : Nat).log2 = 52 := by
    have : (4503599627370496 : Nat) = 2 ^ 52 := by decide
    rw [this, log2_pow]
  simp only [Datum.quotient, dbl_frac, hl]
  rw [if_neg (by decide)]
  have e0 : 52 + 2 + 52 - 52 = 54 := rfl
  have e1 : (4503599627370496 : Nat) <<< 54 = 2 ^ 106 := by decide
  have e2 : 2 ^ 106 / 4503599627370496 = 2 ^ 54 := by decide
  have e3 : 2 ^ 106 % 4503599627370496 = 0 := by decide
  rw [e0, e1, e2, e3]
  have e4 : 2 * 2 ^ 54 + ((0 : Nat) != 0).toNat = 2 ^ 55 := by decide
  rw [e4]
  show some (double.write (.number false (2 ^ 55) _)) = _
  rw [write_pow (h := a - b) (by omega) (by omega) (by omega)]

/-- a word that is a number not below zero, or +infinity -/
def NN (x : Nat) : Prop := x ≤ 9218868437227405312

theorem nn_pw (h : Nat) : NN (pw h) := by unfold NN pw; omega
theorem nn_zero : NN 0 := by unfold NN; omega

theorem nearest_nn (m : Nat) (p : Int) : NN (double.nearest false m p) := by
  unfold Format.nearest NN
  simp only [dbl_infRung]
  split
  · unfold Format.word; rw [if_neg (by decide)]; omega
  · unfold Format.word; rw [if_neg (by decide)]; exact Nat.min_le_right _ _

theorem write_nn {d : Datum} (h : d.neg = false) (hn : d.isNaN = false) : NN (double.write d) := by
  cases d with
  | number neg mag place => cases h; exact nearest_nn _ _
  | infinity neg => cases h; exact Nat.le_refl _
  | nan neg f => cases hn

/-- what a word not below zero stands for -/
theorem read_nn {x : Nat} (h : NN x) : (∃ m p, double.read x = .number false m p) ∨ double.read x = .infinity false := by
  unfold NN at h
  rw [read_nonneg (by omega)]
  split
  · exact .inl ⟨_, _, rfl⟩
  · split
    · exact .inl ⟨_, _, rfl⟩
    · rw [if_pos (by omega)]; exact .inr rfl

/-- the sum of two such words is one -/
theorem add_nn {x y : Nat} (hx : NN x) (hy : NN y) : ∃ r, double.add x y = some r ∧ NN r := by
  unfold Format.add
  rcases read_nn hx with ⟨m, p, ex⟩ | ex <;> rcases read_nn hy with ⟨n, q, ey⟩ | ey <;> rw [ex, ey]
  · simp only [Datum.sum, Option.map_some]
    refine ⟨_, rfl, write_nn ?_ rfl⟩
    simp only [Datum.neg]
    have h1 : ∀ (m k : Nat), 0 ≤ signed false m k := fun m k => by
      unfold signed; rw [if_neg (by decide)]; exact Int.natCast_nonneg _
    split
    · rfl
    · have a := h1 m (p - min p q).toNat
      have b := h1 n (q - min p q).toNat
      exact decide_eq_false (by omega)
  · exact ⟨_, rfl, write_nn rfl rfl⟩
  · exact ⟨_, rfl, write_nn rfl rfl⟩
  · simp only [Datum.sum, if_true, Option.map_some]
    exact ⟨_, rfl, write_nn rfl rfl⟩

theorem order_self {x : Nat} (hx : NN x) : double.order x x = some .eq := by
  unfold Format.order
  rcases read_nn hx with ⟨m, p, ex⟩ | ex <;> rw [ex]
  · simp [Datum.order]
  · simp [Datum.order]

theorem cmp_gt {a b : Int} (h : b < a) : compare a b = .gt := by
  show compareOfLessAndEq a b = .gt
  unfold compareOfLessAndEq
  rw [if_neg (by omega), if_neg (by omega)]
theorem cmp_lt {a b : Int} (h : a < b) : compare a b = .lt := by
  show compareOfLessAndEq a b = .lt
  unfold compareOfLessAndEq
  rw [if_pos h]
theorem cmp_eq {a b : Int} (h : a = b) : compare a b = .eq := by
  show compareOfLessAndEq a b = .eq
  unfold compareOfLessAndEq
  rw [if_neg (by omega), if_pos h]

theorem order_pw_zero {h : Nat} (hh : h ≤ 1022) : double.order (pw h) 0 = some .gt := by
  unfold Format.order
  rw [read_pw hh, read_zero]
  simp only [Datum.order, signed]
  have h1 : ∀ k : Nat, (0 : Nat) <<< k = 0 := fun k => Nat.zero_shiftLeft k
  have h2 : ∀ k : Nat, 0 < (4503599627370496 : Nat) <<< k := fun k => by
    rw [Nat.shiftLeft_eq]; exact Nat.mul_pos (by omega) (Nat.two_pow_pos k)
  have h3 := h2 (-(52 : Int) - h - min (-(52 : Int) - h) (-1074)).toNat
  simp only [h1, Bool.false_eq_true, if_false]
  refine congrArg some ?_
  exact cmp_gt (by omega)

end Go.Proofs.Qxb6000633a
