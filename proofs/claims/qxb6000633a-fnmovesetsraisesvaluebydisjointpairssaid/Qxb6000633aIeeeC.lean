/-
  Plain facts on IEEE doubles, last: a factor above one does not lower; sums of at most 2^20 chances stay finite; whole numbers add and compare exactly. No Go in sight.
-/
import Derived.Test.Qxb6000633aIeeeB
namespace Go.Proofs.Qxb6000633a
open Ieee
set_option exponentiation.threshold 2000

/-! ### the factor 1 + 1e-9 -/

theorem read_fac : double.read 4607182418804521008 = .number false (4503599627370496 + 4503600) (-52) := by
  rw [read_nonneg (by omega), if_neg (by omega), if_pos (by omega)]
  rfl

theorem wd_self {x m : Nat} {p : Int} (hx : FN x) (h1 : -1074 ≤ p) (hv : val x = m * 2 ^ (p + 1074).toNat) : double.nearest false m p = x := by
  have h := wd_val hx
  unfold wd at h
  rw [hv, nearest_scale] at h
  have e : (-1074 : Int) + ((p + 1074).toNat : Int) = p := by omega
  rw [e] at h
  exact h

theorem mul_fac {v : Nat} (hv : FN v) : ∃ b, double.mul v 4607182418804521008 = some b ∧ NN b ∧ v ≤ b := by
  obtain ⟨m, p, e, h1, h2⟩ := read_fn hv
  unfold Format.mul
  rw [e, read_fac]
  simp only [Datum.product, Option.map_some]
  refine ⟨_, rfl, nearest_nn _ _, ?_⟩
  show v ≤ double.nearest false (m * (4503599627370496 + 4503600)) (p + -52)
  have s := wd_self hv h1 h2
  have h3 : double.nearest false (m * 2 ^ 52) (p + -52) = double.nearest false m p := by
    rw [nearest_scale]
    congr 1
    omega
  rw [s] at h3
  have h4 := nearest_mono (a := m * 2 ^ 52) (b := m * (4503599627370496 + 4503600)) (p + -52) (Nat.mul_le_mul_left m (by rw [← two52]; omega))
  omega

/-! ### products with nothing -/

theorem mul_pw_zero {h : Nat} (hh : h ≤ 1022) : double.mul (pw h) 0 = some 0 := by
  unfold Format.mul
  rw [read_pw hh, read_zero]
  simp only [Datum.product, Option.map_some, Nat.mul_zero]
  refine congrArg some ?_
  exact nearest_zero _
theorem mul_zero_pw {h : Nat} (hh : h ≤ 1022) : double.mul 0 (pw h) = some 0 := by
  unfold Format.mul
  rw [read_pw hh, read_zero]
  simp only [Datum.product, Option.map_some, Nat.zero_mul]
  refine congrArg some ?_
  exact nearest_zero _
theorem mul_zero_zero : double.mul 0 0 = some 0 := by
  unfold Format.mul
  rw [read_zero]
  simp only [Datum.product, Option.map_some, Nat.zero_mul]
  refine congrArg some ?_
  exact nearest_zero _

/-! ### comparing, a difference -/

theorem order_gt_nn {x y : Nat} (hx : FN x) (hy : NN y) (h : double.order x y = some .gt) : y < x := by
  by_cases hf : FN y
  · exact (order_gt hx hf).1 h
  · exfalso
    unfold NN at hy
    unfold FN at hf
    have e : y = 9218868437227405312 := by omega
    subst e
    obtain ⟨m, p, e1, _, _⟩ := read_fn hx
    unfold Format.order at h
    have e2 : double.read 9218868437227405312 = .infinity false := by
      rw [read_nonneg (by omega), if_neg (by omega), if_neg (by omega), if_pos rfl]
    rw [e1, e2] at h
    simp [Datum.order] at h

theorem sub_some {x y : Nat} (hx : NN x) (hy : FN y) : ∃ r, double.sub x y = some r := by
  obtain ⟨m, p, e1, _, _⟩ := read_fn hy
  unfold Format.sub
  rw [e1]
  rcases read_nn hx with ⟨n, q, e2⟩ | e2 <;> rw [e2]
  · exact ⟨_, rfl⟩
  · exact ⟨_, rfl⟩

/-! ### whole numbers -/

/-- one, in units -/
def UN : Nat := 2 ^ 1074
theorem pow_UN {e : Nat} (h : e = 1074) : 2 ^ e = UN := by rw [h]; rfl
theorem UN_pos : 0 < UN := Nat.two_pow_pos _

theorem pw_fn (h : Nat) : FN (pw h) := by unfold FN pw; omega

/-- the word of a whole number -/
def iw (N : Nat) : Nat := double.nearest false N 0

theorem iw_zero : iw 0 = 0 := nearest_zero _

theorem iw_spec {N : Nat} (h : N < 9007199254740992) : FN (iw N) ∧ val (iw N) = N * UN := by
  by_cases h0 : N = 0
  · subst h0
    rw [iw_zero]
    exact ⟨by unfold FN; omega, by rw [Nat.zero_mul]; unfold val; rw [if_pos (by omega)]⟩
  obtain ⟨l, hl⟩ : ∃ l, l = N.log2 := ⟨_, rfl⟩
  obtain ⟨b1, b2⟩ := log2_bounds h0
  rw [← hl] at b1 b2
  have hl52 : l ≤ 52 := by
    have : N.log2 < 53 := (Nat.log2_lt h0).2 (by have : (2 : Nat) ^ 53 = 9007199254740992 := by decide
                                                 omega)
    omega
  have hform : iw N = (l + 1022) * 4503599627370496 + N * 2 ^ (52 - l) := by
    unfold iw
    rw [nearest_form h0]
    have hL : lst N 0 = (l : Int) - 52 := by unfold lst; omega
    rw [hL]
    have hk : kept N 0 ((l : Int) - 52) = N * 2 ^ (52 - l) := by
      unfold kept
      have a1 : ((0 : Int) - ((l : Int) - 52)).toNat = 52 - l := by omega
      have a2 : ((l : Int) - 52 - 0).toNat = 0 := by omega
      rw [a1, a2, rnd_zero, Nat.shiftLeft_eq]
    have a3 : ((l : Int) - 52 + 1074).toNat = l + 1022 := by omega
    rw [hk, a3]
    have hK : N * 2 ^ (52 - l) < 9007199254740992 := by
      have h1 : N * 2 ^ (52 - l) < 2 ^ (l + 1) * 2 ^ (52 - l) := Nat.mul_lt_mul_of_pos_right b2 (Nat.two_pow_pos _)
      rw [← Nat.pow_add] at h1
      have e : l + 1 + (52 - l) = 53 := by omega
      rw [e] at h1
      have : (2 : Nat) ^ 53 = 9007199254740992 := by decide
      omega
    omega
  have hK1 : 4503599627370496 ≤ N * 2 ^ (52 - l) := by
    have h1 : 2 ^ l * 2 ^ (52 - l) ≤ N * 2 ^ (52 - l) := Nat.mul_le_mul_right _ b1
    rw [← Nat.pow_add] at h1
    have e : l + (52 - l) = 52 := by omega
    rw [e, ← two52] at h1
    exact h1
  have hK2 : N * 2 ^ (52 - l) < 9007199254740992 := by
    have h1 : N * 2 ^ (52 - l) < 2 ^ (l + 1) * 2 ^ (52 - l) := Nat.mul_lt_mul_of_pos_right b2 (Nat.two_pow_pos _)
    rw [← Nat.pow_add] at h1
    have e : l + 1 + (52 - l) = 53 := by omega
    rw [e] at h1
    have : (2 : Nat) ^ 53 = 9007199254740992 := by decide
    omega
  have hval : N * 2 ^ (52 - l) * 2 ^ (l + 1022) = N * UN := by
    rw [Nat.mul_assoc, ← Nat.pow_add, pow_UN (by omega)]
  rw [hform]
  generalize N * 2 ^ (52 - l) = K at *
  have hx : (l + 1022) * 4503599627370496 + K = (l + 1023) * 4503599627370496 + (K - 4503599627370496) := by omega
  refine ⟨by unfold FN; omega, ?_⟩
  unfold val
  rw [if_neg (by omega), hx]
  have d1 : ((l + 1023) * 4503599627370496 + (K - 4503599627370496)) / 4503599627370496 = l + 1023 := by
    rw [Nat.mul_comm, Nat.mul_add_div (by omega), Nat.div_eq_of_lt (by omega), Nat.add_zero]
  have d2 : ((l + 1023) * 4503599627370496 + (K - 4503599627370496)) % 4503599627370496 = K - 4503599627370496 := by
    rw [Nat.mul_comm, Nat.mul_add_mod, Nat.mod_eq_of_lt (by omega)]
  rw [d1, d2]
  have d3 : 4503599627370496 + (K - 4503599627370496) = K := Nat.add_sub_cancel' hK1
  have d4 : l + 1023 - 1 = l + 1022 := by omega
  rw [d3, d4]
  exact hval

theorem wd_int (N : Nat) : wd (N * UN) = iw N := by
  unfold wd iw
  have e : N * UN = N * 2 ^ 1074 := rfl
  rw [e, nearest_scale]
  have e2 : (-1074 : Int) + ((1074 : Nat) : Int) = 0 := by decide
  rw [e2]

theorem val_one : val (pw 0) = UN := by
  have h := (iw_spec (N := 1) (by omega)).2
  have e : iw 1 = pw 0 := by
    have h1 : FN (pw 0) := pw_fn 0
    have h2 : double.nearest false 4503599627370496 (-52) = pw 0 := by
      have := write_pow (m := 52) (p := -52) (h := 0) (by omega) (by omega) (by omega)
      rw [← two52] at this
      exact this
    have h3 : double.nearest false (1 * 2 ^ 52) (-52) = double.nearest false 1 (-52 + (52 : Nat)) := nearest_scale 1 52 (-52)
    rw [Nat.one_mul, ← two52] at h3
    unfold iw
    rw [← h2, h3]
    rfl
  rw [e, Nat.one_mul] at h
  exact h

/-- one more chance onto at most k: at most k + 1 -/
theorem add_step {x h k : Nat} (hx : x ≤ iw k) (hk : k + 1 < 9007199254740992) : ∃ r, double.add x (pw h) = some r ∧ r ≤ iw (k + 1) := by
  obtain ⟨f1, v1⟩ := iw_spec (N := k) (by omega)
  have fx : FN x := by unfold FN at *; omega
  refine ⟨_, add_fn fx (pw_fn h), ?_⟩
  have h1 : val x ≤ k * UN := by rw [← v1]; exact val_mono fx f1 hx
  have h2 : val (pw h) ≤ UN := by rw [← val_one]; exact val_mono (pw_fn h) (pw_fn 0) (by unfold pw; omega)
  rw [← wd_int]
  refine wd_mono ?_
  rw [Nat.add_mul, Nat.one_mul]
  omega

/-! ### whole numbers with a sign -/

theorem cut_sign (n d : Nat) : Toward.even.cut true n d = Toward.even.cut false n d := rfl
theorem word_sign (r : Nat) : double.word true r = 9223372036854775808 + double.word false r := by
  unfold Format.word
  rw [if_pos rfl, if_neg (by decide), dbl_signWeight]
theorem nearest_true (m : Nat) (p : Int) : double.nearest true m p = 9223372036854775808 + double.nearest false m p := by
  unfold Format.nearest
  split
  · exact word_sign _
  · simp only [cut_sign]
    exact word_sign _

theorem read_minus {x : Nat} (h : FN x) {m : Nat} {p : Int} (e : double.read x = .number false m p) : double.read (9223372036854775808 + x) = .number true m p := by
  unfold FN at h
  have h1 : (9223372036854775808 + x) % double.signWeight = x := by
    show (9223372036854775808 + x) % 9223372036854775808 = x
    rw [Nat.add_mod_left, Nat.mod_eq_of_lt (by omega)]
  have h2 : (9223372036854775808 + x) / double.signWeight = 1 := by
    show (9223372036854775808 + x) / 9223372036854775808 = 1
    rw [Nat.add_div_left _ (by omega), Nat.div_eq_of_lt (by omega)]
  have h3 : x % double.signWeight = x := Nat.mod_eq_of_lt (by show x < 9223372036854775808; omega)
  have h4 : x / double.signWeight = 0 := Nat.div_eq_of_lt (by show x < 9223372036854775808; omega)
  simp only [Format.read, h3, h4] at e
  simp only [Format.read, h1, h2]
  split at e
  · rename_i c; rw [if_pos c]; cases e; rfl
  · rename_i c
    rw [if_neg c]
    split at e
    · rename_i c'; rw [if_pos c']; cases e; rfl
    · split at e <;> cases e

/-- the word of a whole number with a sign -/
def fI (n : Int) : Nat := double.write (.number (decide (n < 0)) n.natAbs 0)

theorem read_fI {n : Int} (h : n.natAbs < 9007199254740992) : ∃ m p, double.read (fI n) = .number (decide (n < 0)) m p ∧ -1074 ≤ p ∧ m * 2 ^ (p + 1074).toNat = n.natAbs * UN := by
  obtain ⟨f1, v1⟩ := iw_spec h
  obtain ⟨m, p, e, h1, h2⟩ := read_fn f1
  refine ⟨m, p, ?_, h1, by rw [← h2, v1]⟩
  by_cases hn : n < 0
  · have e1 : fI n = 9223372036854775808 + iw n.natAbs := by
      unfold fI
      rw [decide_eq_true hn]
      exact nearest_true _ _
    rw [e1, decide_eq_true hn]
    exact read_minus f1 e
  · have e1 : fI n = iw n.natAbs := by
      unfold fI
      rw [decide_eq_false hn]
      rfl
    rw [e1, decide_eq_false hn]
    exact e

/-- a signed number of units at the place b -/
theorem signed_units {n : Int} {m : Nat} {p b : Int} (h1 : b ≤ p) (h2 : -1074 ≤ b) (hm : m * 2 ^ (p + 1074).toNat = n.natAbs * UN) :
    signed (decide (n < 0)) m (p - b).toNat * ((2 ^ (b + 1074).toNat : Nat) : Int) = n * (UN : Int) := by
  have s := shift_units (m := m) h1 h2
  rw [hm] at s
  unfold signed
  generalize m <<< (p - b).toNat = a at *
  generalize (2 ^ (b + 1074).toNat : Nat) = g at *
  generalize UN = G at *
  have s' : (a : Int) * (g : Int) = (n.natAbs : Int) * (G : Int) := by
    rw [← Int.natCast_mul, ← Int.natCast_mul, s]
  by_cases hn : n < 0
  · have e : (n.natAbs : Int) = -n := by omega
    rw [decide_eq_true hn, if_pos rfl, Int.neg_mul, s', e, Int.neg_mul, Int.neg_neg]
  · have e : (n.natAbs : Int) = n := by omega
    rw [decide_eq_false hn, if_neg (by decide), s', e]

theorem mul_lt_iff {a b g G x y : Int} (hg : 0 < g) (hG : 0 < G) (ha : a * g = x * G) (hb : b * g = y * G) : (x < y → a < b) ∧ (x = y → a = b) := by
  constructor
  · intro h
    have h1 : x * G < y * G := Int.mul_lt_mul_of_pos_right h hG
    rw [← ha, ← hb] at h1
    exact Int.lt_of_mul_lt_mul_right h1 (Int.le_of_lt hg)
  · intro h
    subst h
    have h1 : a * g = b * g := by rw [ha, hb]
    exact Int.eq_of_mul_eq_mul_right (by omega) h1

theorem cmp_units {a b g G x y : Int} (hg : 0 < g) (hG : 0 < G) (ha : a * g = x * G) (hb : b * g = y * G) : compare a b = compare x y := by
  rcases Int.lt_trichotomy x y with h | h | h
  · rw [cmp_lt h, cmp_lt ((mul_lt_iff hg hG ha hb).1 h)]
  · rw [cmp_eq h, cmp_eq ((mul_lt_iff hg hG ha hb).2 h)]
  · rw [cmp_gt h, cmp_gt ((mul_lt_iff hg hG hb ha).1 h)]

theorem order_fI {a b : Int} (ha : a.natAbs < 9007199254740992) (hb : b.natAbs < 9007199254740992) : double.order (fI a) (fI b) = some (compare a b) := by
  obtain ⟨m, p, e1, h1, v1⟩ := read_fI ha
  obtain ⟨n, q, e2, h2, v2⟩ := read_fI hb
  unfold Format.order
  rw [e1, e2]
  simp only [Datum.order]
  refine congrArg some ?_
  have hp : 0 < 2 ^ (min p q + 1074).toNat := Nat.two_pow_pos _
  have hU := UN_pos
  exact cmp_units (g := ((2 ^ (min p q + 1074).toNat : Nat) : Int)) (G := (UN : Int)) (by omega) (by omega) (signed_units (by omega) (by omega) v1) (signed_units (by omega) (by omega) v2)

/-- writing a number of units that is a whole number -/
theorem write_units {T : Int} {b : Int} {n : Int} {z : Bool} (h2 : -1074 ≤ b) (h : T * ((2 ^ (b + 1074).toNat : Nat) : Int) = n * (UN : Int)) (hz : n = 0 → z = false) :
    double.write (.number (if T = 0 then z else decide (T < 0)) T.natAbs b) = fI n := by
  have hp : 0 < 2 ^ (b + 1074).toNat := Nat.two_pow_pos _
  have hU := UN_pos
  have hg : (0 : Int) < ((2 ^ (b + 1074).toNat : Nat) : Int) := by omega
  have hG : (0 : Int) < (UN : Int) := by omega
  have h0 : (0 : Int) * ((2 ^ (b + 1074).toNat : Nat) : Int) = 0 * (UN : Int) := by rw [Int.zero_mul, Int.zero_mul]
  have sgn : (T = 0 ↔ n = 0) ∧ (T < 0 ↔ n < 0) := by
    rcases Int.lt_trichotomy n 0 with c | c | c
    · have := (mul_lt_iff hg hG h h0).1 c
      omega
    · have := (mul_lt_iff hg hG h h0).2 c
      omega
    · have := (mul_lt_iff hg hG h0 h).1 c
      omega
  have hneg : (if T = 0 then z else decide (T < 0)) = decide (n < 0) := by
    by_cases c : T = 0
    · have c' := sgn.1.1 c
      rw [if_pos c, hz c', c']
      rfl
    · rw [if_neg c]
      by_cases c2 : T < 0
      · rw [decide_eq_true c2, decide_eq_true (sgn.2.1 c2)]
      · rw [decide_eq_false c2, decide_eq_false (fun h => c2 (sgn.2.2 h))]
  have habs : T.natAbs * 2 ^ (b + 1074).toNat = n.natAbs * UN := by
    have := congrArg Int.natAbs h
    rw [Int.natAbs_mul, Int.natAbs_mul, Int.natAbs_natCast, Int.natAbs_natCast] at this
    exact this
  rw [hneg]
  unfold fI
  have key : double.nearest false T.natAbs b = double.nearest false n.natAbs 0 := by
    have k1 := nearest_scale T.natAbs (b + 1074).toNat (-1074)
    have k2 : (-1074 : Int) + ((b + 1074).toNat : Int) = b := by omega
    rw [k2] at k1
    rw [← k1, habs]
    exact wd_int n.natAbs
  show double.nearest (decide (n < 0)) T.natAbs b = double.nearest (decide (n < 0)) n.natAbs 0
  cases decide (n < 0)
  · exact key
  · rw [nearest_true, nearest_true, key]

theorem add_fI {a b : Int} (ha : a.natAbs < 9007199254740992) (hb : b.natAbs < 9007199254740992) : double.add (fI a) (fI b) = some (fI (a + b)) := by
  obtain ⟨m, p, e1, h1, v1⟩ := read_fI ha
  obtain ⟨n, q, e2, h2, v2⟩ := read_fI hb
  unfold Format.add
  rw [e1, e2]
  simp only [Datum.sum, Option.map_some]
  refine congrArg some ?_
  refine write_units (by omega) ?_ (fun h => ?_)
  · rw [Int.add_mul, signed_units (by omega) (by omega) v1, signed_units (by omega) (by omega) v2, ← Int.add_mul]
  · by_cases c : a < 0
    · rw [decide_eq_true c, decide_eq_false (by omega : ¬ b < 0)]; rfl
    · rw [decide_eq_false c]; rfl

theorem signed_not (s : Bool) (m k : Nat) : signed (!s) m k = -signed s m k := by
  unfold signed
  cases s
  · rfl
  · show ((m <<< k : Nat) : Int) = - -((m <<< k : Nat) : Int)
    rw [Int.neg_neg]

theorem sub_fI {a b : Int} (ha : a.natAbs < 9007199254740992) (hb : b.natAbs < 9007199254740992) : double.sub (fI a) (fI b) = some (fI (a - b)) := by
  obtain ⟨m, p, e1, h1, v1⟩ := read_fI ha
  obtain ⟨n, q, e2, h2, v2⟩ := read_fI hb
  unfold Format.sub
  rw [e1, e2]
  simp only [Datum.sum, Datum.opposite, Option.map_some]
  refine congrArg some ?_
  refine write_units (by omega) ?_ (fun h => ?_)
  · rw [signed_not, Int.add_mul, Int.neg_mul, signed_units (by omega) (by omega) v1, signed_units (by omega) (by omega) v2, ← Int.neg_mul, ← Int.add_mul, Int.sub_eq_add_neg]
  · have : a = b := by omega
    subst this
    cases decide (a < 0) <;> rfl

end Go.Proofs.Qxb6000633a
