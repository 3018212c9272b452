/-
  The plain law of a script of disjoint pairs; what a table beside the climb keeps.
-/
import Derived.Test.Qxb6000633aWalkA
import Derived.Test.Qxb6000633aPremB
namespace Go.Proofs.Qxb6000633a
open Go.RowKit

/-- the division behind the first i pairs -/
def Sq (Q U D : Nat → Nat → Nat) (F T : Nat → Nat) : Nat → Nat → Nat → Nat
  | 0 => Q
  | i + 1 => swp (Sq Q U D F T i) U D (F i) (T i)

theorem Sq_untouched {Q U D : Nat → Nat → Nat} {F T : Nat → Nat} : ∀ {i j : Nat}, seenF F T i j = false → ∀ k, Sq Q U D F T i j k = Q j k := by
  intro i
  induction i with
  | zero => intro j _ k; rfl
  | succ i ih =>
    intro j h k
    have h' : upd (upd (seenF F T i) (F i) true) (T i) true j = false := h
    unfold upd at h'
    by_cases e1 : j = T i
    · rw [if_pos e1] at h'; cases h'
    · rw [if_neg e1] at h'
      by_cases e2 : j = F i
      · rw [if_pos e2] at h'; cases h'
      · rw [if_neg e2] at h'
        show swp _ U D (F i) (T i) j k = _
        unfold swp
        rw [if_neg e1, if_neg e2]
        exact ih h' k

/-- each row is one of three -/
def Mixed (Q U D S : Nat → Nat → Nat) : Prop := ∀ j, (∀ k, S j k = Q j k) ∨ (∀ k, S j k = U j k) ∨ (∀ k, S j k = D j k)
theorem Mixed.start (Q U D : Nat → Nat → Nat) : Mixed Q U D Q := fun _ => .inl fun _ => rfl
theorem Mixed.swp {Q U D S : Nat → Nat → Nat} (h : Mixed Q U D S) (f t : Nat) : Mixed Q U D (swp S U D f t) := by
  intro j
  unfold Qxb6000633a.swp
  by_cases e1 : j = t
  · subst e1; exact .inr (.inl fun k => by rw [if_pos rfl])
  · by_cases e2 : j = f
    · subst e2; exact .inr (.inr fun k => by rw [if_neg e1, if_pos rfl])
    · rcases h j with h | h | h
      · exact .inl fun k => by rw [if_neg e1, if_neg e2, h k]
      · exact .inr (.inl fun k => by rw [if_neg e1, if_neg e2, h k])
      · exact .inr (.inr fun k => by rw [if_neg e1, if_neg e2, h k])
theorem Sq_mixed (Q U D : Nat → Nat → Nat) (F T : Nat → Nat) (i : Nat) : Mixed Q U D (Sq Q U D F T i) := by
  induction i with
  | zero => exact Mixed.start _ _ _
  | succ i ih => exact ih.swp _ _

theorem cnt_or {p a b d : Nat → Bool} {n : Nat} (h : ∀ i, i < n → p i = true → a i = true ∨ b i = true ∨ d i = true) : cnt p n ≤ cnt a n + cnt b n + cnt d n := by
  induction n with
  | zero => exact Nat.le_refl _
  | succ n ih =>
    have h1 := ih fun i hi => h i (by omega)
    rw [cnt_succ, cnt_succ, cnt_succ, cnt_succ]
    by_cases hp : p n = true
    · rw [if_pos hp]
      rcases h n (by omega) hp with h2 | h2 | h2 <;> rw [if_pos h2] <;> omega
    · rw [if_neg hp]; omega

theorem Mixed.few {Q U D S : Nat → Nat → Nat} (h : Mixed Q U D S) (k n : Nat) : Hc S k n ≤ Hc Q k n + Hc U k n + Hc D k n := by
  refine cnt_or fun j _ hp => ?_
  rcases h j with h | h | h
  · exact .inl (by rw [← h k]; exact hp)
  · exact .inr (.inl (by rw [← h k]; exact hp))
  · exact .inr (.inr (by rw [← h k]; exact hp))

/-- the room fits a move of two jobs that no earlier move has touched -/
theorem room_mid {c : Cfg} {s : St} {Q U D S : Nat → Nat → Nat} {f t : Nat} (hf : f < c.n) (ht : t < c.n) (hft : f ≠ t) (hn : c.n ≤ 1048576) (hm : Mixed Q U D S) (ef : ∀ k, S f k = Q f k) (et : ∀ k, S t k = Q t k)
    (hfew : ∀ k, k < c.lv → Hc Q k c.n + Hc U k c.n + Hc D k c.n ≤ 1000) (hz : ∀ k, k < c.lv → s.mz k = (Zc S k c.n : Nat)) (hr : ∀ k, k < c.lv → s.mr k = pw (Hc S k c.n)) :
    Room c s Q U D f t (fun k => Zc (swp S U D f t) k c.n) (fun k => Hc (swp S U D f t) k c.n) := by
  refine ⟨fun k hk => ?_, fun k hk => ?_⟩
  · have h1 := Zc_le S k c.n
    have h2 := Zc_swp (Q := S) (U := U) (D := D) hf ht hft k
    rw [hz k hk]
    refine ⟨by omega, by omega, ?_⟩
    rw [ef k, et k] at h2
    show _ = ((Zc (swp S U D f t) k c.n : Nat) : Int)
    omega
  · have h1 := hlf2_le_Hc S hf ht hft k
    have h2 := Hc_swp (Q := S) (U := U) (D := D) hf ht hft k
    have h3 := hfew k hk
    have h4 := hm.few k c.n
    have h5 := (hm.swp f t).few k c.n
    rw [ef k, et k] at h1 h2
    refine ⟨Hc S k c.n, hr k hk, h1, by omega, ?_, ?_⟩
    · show Hc (swp S U D f t) k c.n = _
      omega
    · show Hc (swp S U D f t) k c.n ≤ 1000
      omega

/-! ### a table beside the climb -/

theorem Aft.touch {P : Nat → Prop} {w w' : World} {T n lv : Nat} {V : Nat → Nat} {F : Nat → Nat → Nat} (h : Aft w T n lv V F) (ht : Touch P w w') (h0 : ¬ P T) (h1 : ∀ j, j < n → ¬ P (V j)) : Aft w' T n lv V F :=
  ⟨h.out.of_block (ht.block _ h.out.lt h0), fun j hj => (h.row j hj).of_block (ht.block _ (h.row j hj).lt (h1 j hj))⟩

theorem Climb.own_hi {c : Cfg} {w : World} {s : St} (h : Climb c w s) : ∀ k, own c k → k < w.heap.size := by
  intro k hk
  rcases hk with e | e | ⟨e1, e2⟩ | e | e | e | e | e
  · rw [e]; exact h.S.lt
  · rw [e]; exact h.AL.lt
  · have := (h.CH.row (k - c.CH - 1) (by omega)).lt
    omega
  · rw [e]; exact h.Z.lt
  · rw [e]; exact h.R.lt
  · rw [e]; exact h.U.lt
  · rw [e]; exact h.MZ.lt
  · rw [e]; exact h.MR.lt

/-- a store into the outer row of a table beside the climb -/
theorem Climb.setT {c : Cfg} {w : World} {s : St} (h : Climb c w s) {T m : Nat} {f : Nat → Value} (hT : w.rowIs T 30 m f) (h1 : T ≠ c.CH) (h2 : T ≠ c.UP) (h3 : T ≠ c.DN) (i : Nat) (v : Value) : Climb c (w.setCell ⟨T, i, none⟩ v) s :=
  ⟨h.sep, h.S.setOther (row_ne h.S hT (by decide)) _, h.AL.setOther (row_ne h.AL hT (by decide)) _, h.CH.setOther _ (fun e => h1 e.symm) (fun j hj => row_ne (h.CH.row j hj) hT (by decide)), h.UP.setOther _ (fun e => h2 e.symm) (fun j hj => row_ne (h.UP.row j hj) hT (by decide)), h.DN.setOther _ (fun e => h3 e.symm) (fun j hj => row_ne (h.DN.row j hj) hT (by decide)), h.Z.setOther (row_ne h.Z hT (by decide)) _, h.R.setOther (row_ne h.R hT (by decide)) _, h.G.setOther (row_ne h.G hT (by decide)) _, h.LO.setOther (row_ne h.LO hT (by decide)) _, h.U.setOther (row_ne h.U hT (by decide)) _, h.MZ.setOther (row_ne h.MZ hT (by decide)) _, h.MR.setOther (row_ne h.MR hT (by decide)) _⟩

/-- the table of a division, two rows exchanged -/
theorem upd_swpS (S : Nat → Nat → Nat) (U D : Nat → Nat → Int) (f t : Nat) : upd (upd (fun j k => qb (S j k)) f (fun k => cf (D f k))) t (fun k => cf (U t k)) =
    fun j k => qb (swp S (fun j k => cls (U j k)) (fun j k => cls (D j k)) f t j k) := by
  funext j k
  unfold upd swp
  by_cases h1 : j = t
  · simp only [if_pos h1]; exact cf_cls _
  · by_cases h2 : j = f
    · simp only [if_neg h1, if_pos h2]; exact cf_cls _
    · simp only [if_neg h1, if_neg h2]

end Go.Proofs.Qxb6000633a
