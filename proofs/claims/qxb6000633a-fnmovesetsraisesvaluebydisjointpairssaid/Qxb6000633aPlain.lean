/-
  The plain law of one move: the tallies behind it are those of the division with the two rows exchanged.
-/
import Derived.Test.Qxb6000633aNew
namespace Go.Proofs.Qxb6000633a

theorem cnt_two (p : Nat → Bool) {n f t : Nat} (hf : f < n) (ht : t < n) (hft : f ≠ t) (a b : Bool) :
    cnt (fun j => if j = t then b else if j = f then a else p j) n + (if p f = true then 1 else 0) + (if p t = true then 1 else 0) = cnt p n + (if a = true then 1 else 0) + (if b = true then 1 else 0) := by
  have h1 := cnt_upd p n f a hf
  have h2 := cnt_upd (fun j => if j = f then a else p j) n t b ht
  simp only [if_neg (fun h : t = f => hft h.symm)] at h2
  omega

/-- the division with job f on its down row and job t on its up row -/
def swp (Q U D : Nat → Nat → Nat) (f t : Nat) (j k : Nat) : Nat := if j = t then U t k else if j = f then D f k else Q j k

theorem zb_eq (q : Nat) : (if (q == 0) = true then 1 else 0) = zb q := by
  unfold zb
  by_cases h : q = 0 <;> simp [h]
theorem hlf_eq (q : Nat) : (if (q == 1) = true then 1 else 0) = hlf q := by
  unfold hlf
  by_cases h : q = 1 <;> simp [h]

theorem Zc_swp {Q U D : Nat → Nat → Nat} {n f t : Nat} (hf : f < n) (ht : t < n) (hft : f ≠ t) (k : Nat) : Zc (swp Q U D f t) k n + zb (Q f k) + zb (Q t k) = Zc Q k n + zb (D f k) + zb (U t k) := by
  have h := cnt_two (fun j => Q j k == 0) hf ht hft (D f k == 0) (U t k == 0)
  rw [zb_eq, zb_eq, zb_eq, zb_eq] at h
  have e : cnt (fun j => if j = t then (U t k == 0) else if j = f then (D f k == 0) else (Q j k == 0)) n = Zc (swp Q U D f t) k n := by
    refine cnt_congr fun j _ => ?_
    unfold swp
    by_cases h1 : j = t
    · simp [h1]
    · by_cases h2 : j = f <;> simp [h1, h2, hft]
  rw [e] at h
  exact h

theorem Hc_swp {Q U D : Nat → Nat → Nat} {n f t : Nat} (hf : f < n) (ht : t < n) (hft : f ≠ t) (k : Nat) : Hc (swp Q U D f t) k n + hlf (Q f k) + hlf (Q t k) = Hc Q k n + hlf (D f k) + hlf (U t k) := by
  have h := cnt_two (fun j => Q j k == 1) hf ht hft (D f k == 1) (U t k == 1)
  rw [hlf_eq, hlf_eq, hlf_eq, hlf_eq] at h
  have e : cnt (fun j => if j = t then (U t k == 1) else if j = f then (D f k == 1) else (Q j k == 1)) n = Hc (swp Q U D f t) k n := by
    refine cnt_congr fun j _ => ?_
    unfold swp
    by_cases h1 : j = t
    · simp [h1]
    · by_cases h2 : j = f <;> simp [h1, h2, hft]
  rw [e] at h
  exact h

theorem hlf_le_Hc (D : Nat → Nat → Nat) {n f : Nat} (hf : f < n) (k : Nat) : hlf (D f k) ≤ Hc D k n := by
  unfold hlf
  split
  · rename_i h
    exact cnt_pos (p := fun j => D j k == 1) hf (by simp [h])
  · omega

theorem cnt_ge_two {p : Nat → Bool} {n f t : Nat} (hf : f < n) (ht : t < n) (hft : f ≠ t) : (if p f = true then 1 else 0) + (if p t = true then 1 else 0) ≤ cnt p n := by
  have h := cnt_two p hf ht hft false false
  simp only [Bool.false_eq_true, if_false] at h
  omega

theorem hlf2_le_Hc (Q : Nat → Nat → Nat) {n f t : Nat} (hf : f < n) (ht : t < n) (hft : f ≠ t) (k : Nat) : hlf (Q f k) + hlf (Q t k) ≤ Hc Q k n := by
  have := cnt_ge_two (p := fun j => Q j k == 1) hf ht hft
  rw [hlf_eq, hlf_eq] at this
  exact this

theorem cls_half (n : Int) : (cls n == 1) = (n % 3 == 1) := by
  unfold cls
  by_cases h : n % 3 = 1
  · simp [h]
  · have h2 : (n % 3).toNat ≠ 1 := by omega
    rw [beq_eq_false_iff_ne.2 h2, beq_eq_false_iff_ne.2 h]
theorem hv_Hc (M : Nat → Nat → Int) (k n : Nat) : Hc (fun j k => cls (M j k)) k n = hv M k n := cnt_congr fun _ _ => cls_half _

/-- after tally the room fits a move between two jobs -/
theorem room_of {c : Cfg} {s : St} {Q U D : Nat → Nat → Nat} {f t : Nat} (hf : f < c.n) (ht : t < c.n) (hft : f ≠ t) (hn : c.n ≤ 1048576)
    (hfew : ∀ k, k < c.lv → Hc Q k c.n + Hc U k c.n + Hc D k c.n ≤ 1000) (hz : ∀ k, k < c.lv → s.mz k = (Zc Q k c.n : Nat)) (hr : ∀ k, k < c.lv → s.mr k = pw (Hc Q k c.n)) :
    Room c s Q U D f t (fun k => Zc (swp Q U D f t) k c.n) (fun k => Hc (swp Q U D f t) k c.n) := by
  refine ⟨fun k hk => ?_, fun k hk => ?_⟩
  · have h1 := Zc_le Q k c.n
    have h2 := Zc_swp (Q := Q) (U := U) (D := D) hf ht hft k
    rw [hz k hk]
    refine ⟨by omega, by omega, ?_⟩
    show _ = ((Zc (swp Q U D f t) k c.n : Nat) : Int)
    omega
  · have h1 := hlf2_le_Hc Q hf ht hft k
    have h2 := Hc_swp (Q := Q) (U := U) (D := D) hf ht hft k
    have h3 := hfew k hk
    have h4 := hlf_le_Hc D hf k
    have h5 := hlf_le_Hc U ht k
    refine ⟨Hc Q k c.n, hr k hk, h1, by omega, ?_, ?_⟩
    · show Hc (swp Q U D f t) k c.n = _
      omega
    · show Hc (swp Q U D f t) k c.n ≤ 1000
      omega

theorem Hc_swp_le {Q U D : Nat → Nat → Nat} {n f t k : Nat} (hf : f < n) (ht : t < n) (hft : f ≠ t) (h : Hc Q k n + Hc U k n + Hc D k n ≤ 1000) : Hc (swp Q U D f t) k n ≤ 1000 := by
  have h2 := Hc_swp (Q := Q) (U := U) (D := D) hf ht hft k
  have h4 := hlf_le_Hc D hf k
  have h5 := hlf_le_Hc U ht k
  omega

end Go.Proofs.Qxb6000633a
