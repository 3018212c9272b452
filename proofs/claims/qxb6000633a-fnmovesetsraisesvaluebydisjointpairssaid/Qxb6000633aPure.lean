/-
  Plain mathematics for the loadline seat: counting below a bound. No Go in sight.
-/
namespace Go.Proofs.Qxb6000633a

/-- how many i below n have p -/
def cnt (p : Nat → Bool) : Nat → Nat
  | 0 => 0
  | n + 1 => cnt p n + (if p n = true then 1 else 0)

theorem cnt_zero (p : Nat → Bool) : cnt p 0 = 0 := rfl
theorem cnt_succ (p : Nat → Bool) (n : Nat) : cnt p (n + 1) = cnt p n + (if p n = true then 1 else 0) := rfl
theorem cnt_le (p : Nat → Bool) (n : Nat) : cnt p n ≤ n := by
  induction n with
  | zero => exact Nat.le_refl _
  | succ n ih => rw [cnt_succ]; split <;> omega

theorem cnt_congr {p q : Nat → Bool} {n : Nat} (h : ∀ i, i < n → p i = q i) : cnt p n = cnt q n := by
  induction n with
  | zero => rfl
  | succ n ih =>
    rw [cnt_succ, cnt_succ, ih (fun i hi => h i (by omega)), h n (by omega)]

/-- turning p at one place -/
theorem cnt_upd (p : Nat → Bool) (n f : Nat) (b : Bool) (hf : f < n) :
    cnt (fun i => if i = f then b else p i) n + (if p f = true then 1 else 0) = cnt p n + (if b = true then 1 else 0) := by
  induction n with
  | zero => omega
  | succ n ih =>
    rw [cnt_succ, cnt_succ]
    by_cases h : n = f
    · subst h
      have e : cnt (fun i => if i = n then b else p i) n = cnt p n := cnt_congr fun i hi => by rw [if_neg (by omega)]
      rw [e]
      simp only [if_true]
      omega
    · have := ih (by omega)
      simp only [if_neg h]
      omega

theorem cnt_pos {p : Nat → Bool} {n f : Nat} (hf : f < n) (hp : p f = true) : 1 ≤ cnt p n := by
  induction n with
  | zero => omega
  | succ n ih =>
    rw [cnt_succ]
    by_cases h : n = f
    · subst h; rw [if_pos hp]; omega
    · have := ih (by omega); omega

theorem cnt_mono {p q : Nat → Bool} {n : Nat} (h : ∀ i, i < n → p i = true → q i = true) : cnt p n ≤ cnt q n := by
  induction n with
  | zero => exact Nat.le_refl _
  | succ n ih =>
    rw [cnt_succ, cnt_succ]
    have := ih (fun i hi => h i (by omega))
    by_cases hp : p n = true
    · rw [if_pos hp, if_pos (h n (by omega) hp)]; omega
    · rw [if_neg hp]; omega

end Go.Proofs.Qxb6000633a
