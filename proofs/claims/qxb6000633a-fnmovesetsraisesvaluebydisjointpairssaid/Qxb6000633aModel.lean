/-
  Tables of chances that are read; zzModel, zzZerosAt.
-/
import Derived.Test.Qxb6000633aFloats
import Derived.Test.Qxb6000633aIeee
import Derived.Laws.FloatArith
namespace Go.Proofs.Qxb6000633a
open Go.RowKit
attribute [local go_sem] run_store_float

/-- the bits of a chance by its kind: 0: nothing; 1: a half; else: one -/
def qb (q : Nat) : Nat := if q = 0 then 0 else if q = 1 then pw 1 else pw 0

theorem qb_zero : qb 0 = 0 := rfl
theorem qb_one : qb 1 = pw 1 := rfl
theorem qb_two {q : Nat} (h : q ≠ 0) (h' : q ≠ 1) : qb q = pw 0 := by simp [qb, h, h']
theorem pw_half : pw 1 = 4602678819172646912 := rfl
theorem pw_full : pw 0 = 4607182418800017408 := rfl

/-- the kind of a code -/
def cls (n : Int) : Nat := (n % 3).toNat
theorem cf_cls (n : Int) : cf n = qb (cls n) := by
  unfold cf cls qb
  by_cases h0 : n % 3 = 0
  · simp [h0]
  · by_cases h1 : n % 3 = 1
    · simp [h1]; rfl
    · have : n % 3 = 2 := by omega
      simp [this]; rfl

/-- a table of chances that is read: n rows of lv chances -/
structure Flts (w : World) (ao : Option Addr) (n lv : Nat) (A : Nat → Option Addr) (C : Nat → Nat) (F : Nat → Nat → Nat) : Prop where
  out : Rd w ao n (fun j => .slice (A j) lv (C j))
  row : ∀ j, j < n → Rd w (A j) lv (fun k => .float .f64 (F j k))

theorem Flts.stays {w w' : World} {ao : Option Addr} {n lv : Nat} {A : Nat → Option Addr} {C : Nat → Nat} {F : Nat → Nat → Nat} (h : Flts w ao n lv A C F) (hb : Below w.heap.size w w') : Flts w' ao n lv A C F :=
  ⟨h.out.stays hb, fun j hj => (h.row j hj).stays hb⟩

theorem Flts.at {w : World} {ao : Option Addr} {n lv : Nat} {A : Nat → Option Addr} {C : Nat → Nat} {F : Nat → Nat → Nat} (h : Flts w ao n lv A C F) {j k : Nat} (hj : j < n) (hk : k < lv) :
    ∃ b off y p, ao = some ⟨b, off, none⟩ ∧ w.cell? ⟨b, off + j, none⟩ = some (.slice (some ⟨y, p, none⟩) lv (C j)) ∧ w.cell? ⟨y, p + k, none⟩ = some (.float .f64 (F j k)) := by
  obtain ⟨b, off, h1, h2⟩ := h.out j hj
  obtain ⟨y, p, h3, h4⟩ := h.row j hj k hk
  refine ⟨b, off, y, p, h1, ?_, h4⟩
  have h2' : w.cell? ⟨b, off + j, none⟩ = some (.slice (A j) lv (C j)) := h2
  rw [h2', h3]

theorem FTab.flts {w : World} {B n lv : Nat} {F : Nat → Nat → Nat} (h : FTab w B n lv F) : Flts w (some ⟨B, 0, none⟩) n lv (fun j => some ⟨B + 1 + j, 0, none⟩) (fun _ => lv) F :=
  ⟨fun j hj => ⟨B, 0, rfl, by rw [Nat.zero_add]; exact h.out.cell hj⟩, fun j hj k hk => ⟨_, 0, rfl, by rw [Nat.zero_add]; exact (h.row j hj).cell hk⟩⟩

/-- jobs without a chance, jobs with a half, at level k among the first n -/
def Zc (Q : Nat → Nat → Nat) (k n : Nat) : Nat := cnt (fun j => Q j k == 0) n
def Hc (Q : Nat → Nat → Nat) (k n : Nat) : Nat := cnt (fun j => Q j k == 1) n
theorem Zc_succ (Q : Nat → Nat → Nat) (k n : Nat) : Zc Q k (n + 1) = Zc Q k n + (if (Q n k == 0) = true then 1 else 0) := rfl
theorem Hc_succ (Q : Nat → Nat → Nat) (k n : Nat) : Hc Q k (n + 1) = Hc Q k n + (if (Q n k == 1) = true then 1 else 0) := rfl
theorem Zc_hit {Q : Nat → Nat → Nat} {k n : Nat} (h : Q n k = 0) : Zc Q k (n + 1) = Zc Q k n + 1 := by rw [Zc_succ, h]; rfl
theorem Zc_miss {Q : Nat → Nat → Nat} {k n : Nat} (h : Q n k ≠ 0) : Zc Q k (n + 1) = Zc Q k n := by rw [Zc_succ, if_neg (by simpa using h)]; rfl
theorem Hc_hit {Q : Nat → Nat → Nat} {k n : Nat} (h : Q n k = 1) : Hc Q k (n + 1) = Hc Q k n + 1 := by rw [Hc_succ, h]; rfl
theorem Hc_miss {Q : Nat → Nat → Nat} {k n : Nat} (h : Q n k ≠ 1) : Hc Q k (n + 1) = Hc Q k n := by rw [Hc_succ, if_neg (by simpa using h)]; rfl
theorem pw_H0 (Q : Nat → Nat → Nat) (k : Nat) : 4607182418800017408 = pw (Hc Q k 0) := by
  have : Hc Q k 0 = 0 := rfl
  rw [this, pw_full]
theorem Zc_le (Q : Nat → Nat → Nat) (k n : Nat) : Zc Q k n ≤ n := cnt_le _ _
theorem Hc_mono (Q : Nat → Nat → Nat) (k n m : Nat) (h : n ≤ m) : Hc Q k n ≤ Hc Q k m := by
  induction m with
  | zero => have : n = 0 := by omega
            subst this; exact Nat.le_refl _
  | succ m ih =>
    by_cases e : n = m + 1
    · subst e; exact Nat.le_refl _
    · have := ih (by omega)
      rw [Hc_succ]; omega

/-- a float sum; of numbers not below zero it is one -/
def fadd (x y : Nat) : Nat := (Ieee.double.add x y).getD 0
theorem fadd_eq {x y : Nat} (hx : NN x) (hy : NN y) : Ieee.double.add x y = some (fadd x y) ∧ NN (fadd x y) := by
  obtain ⟨r, h1, h2⟩ := add_nn hx hy
  unfold fadd
  rw [h1]
  exact ⟨rfl, h2⟩

/-- the value: the sum over the levels at which every job has a chance of the product of the chances -/
def vsum (Z H : Nat → Nat) : Nat → Nat
  | 0 => 0
  | k + 1 => if Z k = 0 then fadd (vsum Z H k) (pw (H k)) else vsum Z H k
theorem vsum_nn (Z H : Nat → Nat) (k : Nat) : NN (vsum Z H k) := by
  induction k with
  | zero => exact nn_zero
  | succ k ih =>
    unfold vsum
    split
    · exact (fadd_eq ih (nn_pw _)).2
    · exact ih
theorem vsum_succ_pos {Z H : Nat → Nat} {k : Nat} (h : Z k = 0) : vsum Z H (k + 1) = fadd (vsum Z H k) (pw (H k)) := by simp [vsum, h]
theorem vsum_succ_neg {Z H : Nat → Nat} {k : Nat} (h : Z k ≠ 0) : vsum Z H (k + 1) = vsum Z H k := by simp [vsum, h]
theorem vsum_add {Z H : Nat → Nat} {k : Nat} (h : Z k = 0) : Ieee.double.add (vsum Z H k) (pw (H k)) = some (vsum Z H (k + 1)) := by
  rw [vsum_succ_pos h]; exact (fadd_eq (vsum_nn _ _ _) (nn_pw _)).1
theorem vsum_congr {Z H Z' H' : Nat → Nat} {k : Nat} (h : ∀ i, i < k → Z i = Z' i ∧ H i = H' i) : vsum Z H k = vsum Z' H' k := by
  induction k with
  | zero => rfl
  | succ k ih =>
    unfold vsum
    rw [ih (fun i hi => h i (by omega)), (h k (by omega)).1, (h k (by omega)).2]

section
variable (w : World)
theorem run_mul (x y r : Nat) (h : Ieee.double.mul x y = some r) : (binOp .mul 32 (.float .f64 x) (.float .f64 y)).run Try.prog w = .ok (.float .f64 r) w := run_float_arith w .mul 32 .f64 x y r h
theorem run_quo (x y r : Nat) (h : Ieee.double.div x y = some r) : (binOp .quo 32 (.float .f64 x) (.float .f64 y)).run Try.prog w = .ok (.float .f64 r) w := run_float_arith w .quo 32 .f64 x y r h
theorem run_add (x y r : Nat) (h : Ieee.double.add x y = some r) : (binOp .add 32 (.float .f64 x) (.float .f64 y)).run Try.prog w = .ok (.float .f64 r) w := run_float_arith w .add 32 .f64 x y r h
theorem run_sub (x y r : Nat) (h : Ieee.double.sub x y = some r) : (binOp .sub 32 (.float .f64 x) (.float .f64 y)).run Try.prog w = .ok (.float .f64 r) w := run_float_arith w .sub 32 .f64 x y r h
end

theorem eq_zero_true : (FloatKind.f64.format.order 0 0 == some .eq) = true := by
  have : FloatKind.f64.format.order 0 0 = some .eq := order_self nn_zero
  rw [this]; rfl
theorem eq_zero_false {h : Nat} (hh : h ≤ 1022) : (FloatKind.f64.format.order (pw h) 0 == some .eq) = false := by
  have : FloatKind.f64.format.order (pw h) 0 = some .gt := order_pw_zero hh
  rw [this]; rfl

theorem float_eq {k : FloatKind} {a b : Nat} (h : a = b) : Value.float k a = Value.float k b := by rw [h]
theorem bool_eq {a b : Bool} (h : a = b) : Value.bool a = Value.bool b := by rw [h]

set_option maxHeartbeats 1000000 in
theorem model_any (w : World) (ao : Option Addr) (n cap lv : Nat) (A : Nat → Option Addr) (C : Nat → Nat) (Q : Nat → Nat → Nat) (hc : Flts w ao n lv A C (fun j k => qb (Q j k)))
    (hn : n ≤ 1048576) (hlv : lv ≤ 1048576) (hh : ∀ k, k < lv → Hc Q k n ≤ 1000) :
    Calls Try.prog 20 #[.slice ao n cap, .int .i64 n, .int .i64 lv] w fun e w' => e = .returned (.float .f64 (vsum (fun k => Zc Q k n) (fun k => Hc Q k n) lv)) ∧ w' = w := by
  refine calls_of_k fun R hR => ?_
  have HH := hide hh
  clear hh
  go_enter Try.func20, Try.ntmps20
  go_wp2
  go_loop [7, 8] (fun s i => ∃ k : Nat, k ≤ lv ∧ i = .int .i64 k ∧ s = .float .f64 (vsum (fun k => Zc Q k n) (fun k => Hc Q k n) k)) (fun _ i => lv - (intOf i).toNat)
  case atStart => exact ⟨0, Nat.zero_le _, rfl, rfl⟩
  case round =>
    obtain ⟨k, hk, rfl, rfl⟩ := hrel
    by_cases hkl : k < lv
    · go_wp2
      go_loop [9, 10, 11] (fun p z i => ∃ j : Nat, j ≤ n ∧ i = .int .i64 j ∧ p = .float .f64 (pw (Hc Q k j)) ∧ z = .bool (Zc Q k j != 0)) (fun _ _ i => n - (intOf i).toNat)
      case atStart => exact ⟨0, Nat.zero_le _, rfl, float_eq (pw_H0 Q k), rfl⟩
      case round =>
        obtain ⟨j, hj, rfl, rfl, rfl⟩ := hrel
        by_cases hjn : j < n
        · obtain ⟨x1, o1, y1, p1, rfl, c1, d1⟩ := hc.at hjn hkl
          have hb : Hc Q k (j + 1) ≤ 1000 := Nat.le_trans (Hc_mono Q k _ n (by omega)) (HH.out k hkl)
          have HB := hide hb
          have HC := hide hc
          clear hb hc
          by_cases q0 : Q j k = 0
          · have HZ := hide (Zc_hit q0)
            have HS := hide (Hc_miss (Q := Q) (k := k) (n := j) (by omega))
            rw [q0] at d1
            clear q0
            rw [qb_zero] at d1
            have ht := eq_zero_true
            go_wp2
            go_round
            case rel => exact ⟨j + 1, by omega, by go_num, float_eq (by rw [HS.out]), bool_eq (by rw [HZ.out]; simp)⟩
            case measure => simp [intOf]; omega
          · by_cases q1 : Q j k = 1
            · have HZ := hide (Zc_miss q0)
              have HS := hide (Hc_hit q1)
              rw [q1] at d1
              clear q1 q0
              rw [qb_one] at d1
              have ht := eq_zero_false (h := 1) (by omega)
              have hm := fun w => run_mul w (pw (Hc Q k j)) (pw 1) _ (mul_pw (by have := HB.out; rw [HS.out] at this; omega))
              go_wp2
              go_round
              case rel => exact ⟨j + 1, by omega, by go_num, float_eq (by rw [HS.out]), bool_eq (by rw [HZ.out])⟩
              case measure => simp [intOf]; omega
            · have HZ := hide (Zc_miss q0)
              have HS := hide (Hc_miss q1)
              rw [qb_two q0 q1] at d1
              have ht := eq_zero_false (h := 0) (by omega)
              have hm := fun w => run_mul w (pw (Hc Q k j)) (pw 0) _ (mul_pw (by have := HB.out; rw [HS.out] at this; omega))
              simp only [Nat.add_zero] at hm
              go_wp2
              go_round
              case rel => exact ⟨j + 1, by omega, by go_num, float_eq (by rw [HS.out]), bool_eq (by rw [HZ.out])⟩
              case measure => simp [intOf]; omega
        · have ej : j = n := by omega
          subst ej
          by_cases hz : Zc Q k j = 0
          · have hb : (Zc Q k j != 0) = false := by simp [hz]
            have ha := fun w => run_add w _ _ _ (vsum_add (Z := fun k => Zc Q k j) (H := fun k => Hc Q k j) (k := k) hz)
            clear hz
            go_wp2
            go_round
            case rel => exact ⟨k + 1, by omega, by go_num, rfl⟩
            case measure => simp [intOf]; omega
          · have hb : (Zc Q k j != 0) = true := by simp [hz]
            have HV := hide (vsum_succ_neg (Z := fun k => Zc Q k j) (H := fun k => Hc Q k j) (k := k) hz)
            clear hz
            go_wp2
            go_round
            case rel => exact ⟨k + 1, by omega, by go_num, float_eq HV.out.symm⟩
            case measure => simp [intOf]; omega
    · have e : k = lv := by omega
      subst e
      go_wp2
      exact hR.out _ _ ⟨rfl, rfl⟩

end Go.Proofs.Qxb6000633a
