/-
  The plain law of a set of disjoint pairs that is moved.
-/
import Derived.Test.Qxb6000633aRun
import Derived.Test.Qxb6000633aPlainB
namespace Go.Proofs.Qxb6000633a
open Go.RowKit

theorem seenF_congr {F T F' T' : Nat → Nat} : ∀ {i : Nat}, (∀ q, q < i → F q = F' q ∧ T q = T' q) → seenF F T i = seenF F' T' i := by
  intro i
  induction i with
  | zero => intro _; rfl
  | succ i ih =>
    intro h
    show upd (upd (seenF F T i) (F i) true) (T i) true = upd (upd (seenF F' T' i) (F' i) true) (T' i) true
    rw [ih fun q hq => h q (by omega), (h i (by omega)).1, (h i (by omega)).2]

theorem Sq_congr {Q U D : Nat → Nat → Nat} {F T F' T' : Nat → Nat} : ∀ {i : Nat}, (∀ q, q < i → F q = F' q ∧ T q = T' q) → Sq Q U D F T i = Sq Q U D F' T' i := by
  intro i
  induction i with
  | zero => intro _; rfl
  | succ i ih =>
    intro h
    show swp (Sq Q U D F T i) U D (F i) (T i) = swp (Sq Q U D F' T' i) U D (F' i) (T' i)
    rw [ih fun q hq => h q (by omega), (h i (by omega)).1, (h i (by omega)).2]

/-- the cells of the first q pairs -/
def pairL (F T : Nat → Nat) : Nat → List Value
  | 0 => []
  | q + 1 => pairL F T q ++ [.int .i64 (F q : Nat), .int .i64 (T q : Nat)]

theorem pairL_congr {F T F' T' : Nat → Nat} : ∀ {i : Nat}, (∀ q, q < i → F q = F' q ∧ T q = T' q) → pairL F T i = pairL F' T' i := by
  intro i
  induction i with
  | zero => intro _; rfl
  | succ i ih =>
    intro h
    show pairL F T i ++ _ = pairL F' T' i ++ _
    rw [ih fun q hq => h q (by omega), (h i (by omega)).1, (h i (by omega)).2]

theorem pairL_length (F T : Nat → Nat) (q : Nat) : (pairL F T q).length = q * 2 := by
  induction q with
  | zero => rfl
  | succ q ih =>
    show (pairL F T q ++ _).length = _
    rw [List.length_append, ih]
    simp
    omega

theorem pairL_get (F T : Nat → Nat) {i q : Nat} (h : i < q) : (pairL F T q)[i * 2]? = some (.int .i64 (F i : Nat)) ∧ (pairL F T q)[i * 2 + 1]? = some (.int .i64 (T i : Nat)) := by
  induction q with
  | zero => omega
  | succ q ih =>
    show (pairL F T q ++ _)[i * 2]? = _ ∧ (pairL F T q ++ _)[i * 2 + 1]? = _
    have hl := pairL_length F T q
    by_cases e : i = q
    · subst e
      rw [List.getElem?_append_right (by omega), List.getElem?_append_right (by omega), hl]
      rw [show i * 2 - i * 2 = 0 from by omega, show i * 2 + 1 - i * 2 = 1 from by omega]
      exact ⟨rfl, rfl⟩
    · rw [List.getElem?_append_left (by omega), List.getElem?_append_left (by omega)]
      exact ih (by omega)

theorem Script.less {n m q : Nat} {F T : Nat → Nat} (h : Script n m F T) (hq : q ≤ m) : Script n q F T :=
  ⟨fun i hi => h.f i (by omega), fun i hi => h.t i (by omega), fun i hi => h.ne i (by omega), fun i hi => h.sf i (by omega), fun i hi => h.st i (by omega)⟩

theorem upd_below (F : Nat → Nat) {q i : Nat} (x : Nat) (h : i < q) : F i = upd F q x i := (upd_other F x (by omega)).symm

theorem below_pair (F T : Nat → Nat) (q f t : Nat) : ∀ i, i < q → F i = upd F q f i ∧ T i = upd T q t i := fun _ hi => ⟨upd_below F f hi, upd_below T t hi⟩

theorem Script.more {n q f t : Nat} {F T : Nat → Nat} (h : Script n q F T) (hf : f < n) (ht : t < n) (hft : f ≠ t) (s1 : seenF F T q f = false) (s2 : seenF F T q t = false) : Script n (q + 1) (upd F q f) (upd T q t) := by
  have hb := below_pair F T q f t
  have hs : ∀ i, i ≤ q → seenF (upd F q f) (upd T q t) i = seenF F T i := fun i hi => (seenF_congr fun p hp => hb p (by omega)).symm
  refine ⟨fun i hi => ?_, fun i hi => ?_, fun i hi => ?_, fun i hi => ?_, fun i hi => ?_⟩
  · by_cases e : i = q
    · subst e; rw [upd_same]; exact hf
    · rw [← (hb i (by omega)).1]; exact h.f i (by omega)
  · by_cases e : i = q
    · subst e; rw [upd_same]; exact ht
    · rw [← (hb i (by omega)).2]; exact h.t i (by omega)
  · by_cases e : i = q
    · subst e; rw [upd_same, upd_same]; exact hft
    · rw [← (hb i (by omega)).1, ← (hb i (by omega)).2]; exact h.ne i (by omega)
  · rw [hs i (by omega)]
    by_cases e : i = q
    · subst e; rw [upd_same]; exact s1
    · rw [← (hb i (by omega)).1]; exact h.sf i (by omega)
  · rw [hs i (by omega)]
    by_cases e : i = q
    · subst e; rw [upd_same]; exact s2
    · rw [← (hb i (by omega)).2]; exact h.st i (by omega)

theorem cnt_seen {n : Nat} {F T : Nat → Nat} : ∀ {q : Nat}, Script n q F T → cnt (seenF F T q) n = 2 * q := by
  intro q
  induction q with
  | zero => intro _; exact cnt_none fun _ _ => rfl
  | succ q ih =>
    intro h
    have h0 := ih (h.less (by omega))
    have h1 := cnt_two (seenF F T q) (h.f q (by omega)) (h.t q (by omega)) (h.ne q (by omega)) true true
    rw [h.sf q (by omega), h.st q (by omega)] at h1
    simp only [Bool.false_eq_true, if_false, if_true] at h1
    have e : cnt (seenF F T (q + 1)) n = cnt (fun j => if j = T q then true else if j = F q then true else seenF F T q j) n := rfl
    rw [e]
    omega

/-- each job's part behind the first i moves: 0 kept, 1 gave, 2 took -/
def role (F T : Nat → Nat) : Nat → Nat → Nat
  | 0 => fun _ => 0
  | i + 1 => upd (upd (role F T i) (F i) 1) (T i) 2

theorem role_unseen {F T : Nat → Nat} : ∀ {i j : Nat}, seenF F T i j = false → role F T i j = 0 := by
  intro i
  induction i with
  | zero => intro _ _; rfl
  | succ i ih =>
    intro j h
    have h' : upd (upd (seenF F T i) (F i) true) (T i) true j = false := h
    show upd (upd (role F T i) (F i) 1) (T i) 2 j = 0
    unfold upd at h' ⊢
    by_cases e1 : j = T i
    · rw [if_pos e1] at h'; cases h'
    · rw [if_neg e1] at h' ⊢
      by_cases e2 : j = F i
      · rw [if_pos e2] at h'; cases h'
      · rw [if_neg e2] at h' ⊢
        exact ih h'

theorem cnt_role {n : Nat} {F T : Nat → Nat} : ∀ {q : Nat}, Script n q F T → cnt (fun j => role F T q j == 1) n = q ∧ cnt (fun j => role F T q j == 2) n = q := by
  intro q
  induction q with
  | zero => intro _; exact ⟨cnt_none fun _ _ => rfl, cnt_none fun _ _ => rfl⟩
  | succ q ih =>
    intro h
    obtain ⟨i1, i2⟩ := ih (h.less (by omega))
    have rf := role_unseen (h.sf q (by omega))
    have rt := role_unseen (h.st q (by omega))
    have hne := h.ne q (by omega)
    have h1 := cnt_two (fun j => role F T q j == 1) (h.f q (by omega)) (h.t q (by omega)) hne true false
    have h2 := cnt_two (fun j => role F T q j == 2) (h.f q (by omega)) (h.t q (by omega)) hne false true
    simp only [rf, rt, show ((0 : Nat) == 1) = false from rfl, show ((0 : Nat) == 2) = false from rfl, Bool.false_eq_true, if_false, if_true] at h1 h2
    have e1 : cnt (fun j => role F T (q + 1) j == 1) n = cnt (fun j => if j = T q then false else if j = F q then true else role F T q j == 1) n := by
      refine cnt_congr fun j _ => ?_
      show (upd (upd (role F T q) (F q) 1) (T q) 2 j == 1) = _
      unfold upd
      by_cases a : j = T q
      · simp [a]
      · by_cases b : j = F q
        · rw [if_neg a, if_neg a, if_pos b, if_pos b]; rfl
        · simp [a, b]
    have e2 : cnt (fun j => role F T (q + 1) j == 2) n = cnt (fun j => if j = T q then true else if j = F q then false else role F T q j == 2) n := by
      refine cnt_congr fun j _ => ?_
      show (upd (upd (role F T q) (F q) 1) (T q) 2 j == 2) = _
      unfold upd
      by_cases a : j = T q
      · simp [a]
      · by_cases b : j = F q
        · rw [if_neg a, if_neg a, if_pos b, if_pos b]; rfl
        · simp [a, b]
    rw [e1, e2]
    omega

/-- the allocations and the chances behind the first i moves -/
def alM (al sa ta : Nat → Nat) (F T : Nat → Nat) : Nat → Nat → Nat
  | 0 => al
  | i + 1 => upd (upd (alM al sa ta F T i) (F i) (sa (F i))) (T i) (ta (T i))
def chM (ch dn up : Nat → Nat → Nat) (F T : Nat → Nat) : Nat → Nat → Nat → Nat
  | 0 => ch
  | i + 1 => upd (upd (chM ch dn up F T i) (F i) (dn (F i))) (T i) (up (T i))

theorem alM_unseen {al sa ta F T : Nat → Nat} : ∀ {i j : Nat}, seenF F T i j = false → alM al sa ta F T i j = al j := by
  intro i
  induction i with
  | zero => intro _ _; rfl
  | succ i ih =>
    intro j h
    have h' : upd (upd (seenF F T i) (F i) true) (T i) true j = false := h
    show upd (upd (alM al sa ta F T i) (F i) (sa (F i))) (T i) (ta (T i)) j = _
    unfold upd at h' ⊢
    by_cases e1 : j = T i
    · rw [if_pos e1] at h'; cases h'
    · rw [if_neg e1] at h' ⊢
      by_cases e2 : j = F i
      · rw [if_pos e2] at h'; cases h'
      · rw [if_neg e2] at h' ⊢
        exact ih h'

theorem part_M (al sa ta : Nat → Nat) (ch dn up : Nat → Nat → Nat) (F T : Nat → Nat) : ∀ (m j : Nat),
    (role F T m j = 0 ∧ alM al sa ta F T m j = al j ∧ chM ch dn up F T m j = ch j) ∨ (role F T m j = 1 ∧ alM al sa ta F T m j = sa j ∧ chM ch dn up F T m j = dn j ∧ ∃ i, i < m ∧ F i = j) ∨ (role F T m j = 2 ∧ alM al sa ta F T m j = ta j ∧ chM ch dn up F T m j = up j ∧ ∃ i, i < m ∧ T i = j) := by
  intro m
  induction m with
  | zero => intro j; exact .inl ⟨rfl, rfl, rfl⟩
  | succ m ih =>
    intro j
    show (upd (upd (role F T m) (F m) 1) (T m) 2 j = 0 ∧ upd (upd (alM al sa ta F T m) (F m) (sa (F m))) (T m) (ta (T m)) j = _ ∧ upd (upd (chM ch dn up F T m) (F m) (dn (F m))) (T m) (up (T m)) j = _) ∨ (upd (upd (role F T m) (F m) 1) (T m) 2 j = 1 ∧ upd (upd (alM al sa ta F T m) (F m) (sa (F m))) (T m) (ta (T m)) j = _ ∧ upd (upd (chM ch dn up F T m) (F m) (dn (F m))) (T m) (up (T m)) j = _ ∧ _) ∨ (upd (upd (role F T m) (F m) 1) (T m) 2 j = 2 ∧ upd (upd (alM al sa ta F T m) (F m) (sa (F m))) (T m) (ta (T m)) j = _ ∧ upd (upd (chM ch dn up F T m) (F m) (dn (F m))) (T m) (up (T m)) j = _ ∧ _)
    by_cases e1 : j = T m
    · subst e1
      refine .inr (.inr ⟨upd_same _ _ _, upd_same _ _ _, upd_same _ _ _, m, by omega, rfl⟩)
    · by_cases e2 : j = F m
      · subst e2
        refine .inr (.inl ⟨?_, ?_, ?_, m, by omega, rfl⟩)
        · rw [upd_other _ _ e1, upd_same]
        · rw [upd_other _ _ e1, upd_same]
        · rw [upd_other _ _ e1, upd_same]
      · rw [upd_other _ _ e1, upd_other _ _ e2, upd_other _ _ e1, upd_other _ _ e2, upd_other _ _ e1, upd_other _ _ e2]
        rcases ih j with h | ⟨a, b, d, i, hi, e⟩ | ⟨a, b, d, i, hi, e⟩
        · exact .inl h
        · exact .inr (.inl ⟨a, b, d, i, by omega, e⟩)
        · exact .inr (.inr ⟨a, b, d, i, by omega, e⟩)

theorem chM_qb {c : Cfg} {s : St} {Q U D : Nat → Nat → Nat} {dd : Nat} {sa ta : Nat → Nat} (hr : Ready c s Q U D dd sa ta) {F T : Nat → Nat} : ∀ (m j k : Nat), j < c.n → k < c.lv → chM s.ch s.dn s.up F T m j k = qb (Sq Q U D F T m j k) := by
  intro m
  induction m with
  | zero => intro j k hj hk; exact hr.q j k hj hk
  | succ m ih =>
    intro j k hj hk
    show upd (upd (chM s.ch s.dn s.up F T m) (F m) (s.dn (F m))) (T m) (s.up (T m)) j k = qb (swp (Sq Q U D F T m) U D (F m) (T m) j k)
    unfold swp
    by_cases e1 : j = T m
    · subst e1
      rw [upd_same, if_pos rfl]
      exact hr.u _ k hj hk
    · rw [upd_other _ _ e1, if_neg e1]
      by_cases e2 : j = F m
      · subst e2
        rw [upd_same, if_pos rfl]
        exact hr.d _ k hj hk
      · rw [upd_other _ _ e2, if_neg e2]
        exact ih j k hj hk

/-! ### the pairs' row beside the climb -/

theorem Climb.of_base {c : Cfg} {w wr w' : World} {s0 s : St} (h0 : Climb c w s0) (h : Climb c wr s) (e : ∀ b, b < w.heap.size → w'.heap[b]? = wr.heap[b]?) : Climb c w' s :=
  ⟨h.sep, h.S.of_block (e _ h0.S.lt), h.AL.of_block (e _ h0.AL.lt), ⟨h.CH.out.of_block (e _ h0.CH.out.lt), fun j hj => (h.CH.row j hj).of_block (e _ (h0.CH.row j hj).lt)⟩, ⟨h.UP.out.of_block (e _ h0.UP.out.lt), fun j hj => (h.UP.row j hj).of_block (e _ (h0.UP.row j hj).lt)⟩, ⟨h.DN.out.of_block (e _ h0.DN.out.lt), fun j hj => (h.DN.row j hj).of_block (e _ (h0.DN.row j hj).lt)⟩, h.Z.of_block (e _ h0.Z.lt), h.R.of_block (e _ h0.R.lt), h.G.of_block (e _ h0.G.lt), h.LO.of_block (e _ h0.LO.lt), h.U.of_block (e _ h0.U.lt), h.MZ.of_block (e _ h0.MZ.lt), h.MR.of_block (e _ h0.MR.lt)⟩

theorem Touch.grownBy {P : Nat → Prop} {w wr w' : World} {row : Option Nat} (h : Touch P w wr) (hg : wr.grownBy w' row) (hrow : ∀ k, row = some k → w.heap.size ≤ k) : Touch P w w' :=
  ⟨hg.os.trans h.os, hg.tape.trans h.tape, hg.output.trans h.output, Nat.le_trans h.size hg.size, fun k hk hp => (hg.block k (Nat.lt_of_lt_of_le hk h.size) (fun e => by have := hrow k e.symm; omega)).trans (h.block k hk hp)⟩

theorem ownsRow_touch {P : Nat → Prop} {w w' : World} {base e size n : Nat} {v : Value} {xs : List Value} (h : w.ownsRow base e size v n xs) (ht : Touch P w w') (hP : ∀ k, P k → k < base) : w'.ownsRow base e size v n xs := by
  refine ⟨h.1, ?_⟩
  rcases h.2 with hn | ⟨g, cap, cur, rfl, hb, hgg, rest⟩
  · exact .inl hn
  · refine .inr ⟨g, cap, cur, rfl, hb, ?_, rest⟩
    rw [ht.block g (Array.getElem?_eq_some_iff.1 hgg).1 (fun hp => by have := hP g hp; omega)]
    exact hgg

/-- what the pairs' row holds -/
theorem own_pair {w : World} {base : Nat} {F T : Nat → Nat} {q : Nat} {ad : Option Addr} {l cap : Nat} (h : w.ownsRow base 72 2 (.slice ad l cap) q (pairL F T q)) {i : Nat} (hi : i < q) :
    ∃ g, ad = some ⟨g, 0, none⟩ ∧ w.cell? ⟨g, i * 2, none⟩ = some (.int .i64 (F i : Nat)) ∧ w.cell? ⟨g, i * 2 + 1, none⟩ = some (.int .i64 (T i : Nat)) := by
  have hc := fun g hg => World.ownsRow.cells h (g := g) hg
  rcases h.2 with ⟨_, h0⟩ | ⟨g, cap, cur, hv, _⟩
  · omega
  · simp only [Value.slice.injEq] at hv
    obtain ⟨rfl, _, _⟩ := hv
    have h1 := pairL_get F T hi
    refine ⟨g, rfl, ?_, ?_⟩
    · have := hc g rfl _ _ h1.1
      rwa [show (⟨g, 0, none⟩ : Addr).add (i * 2) = ⟨g, i * 2, none⟩ from by unfold Addr.add; split <;> simp_all] at this
    · have := hc g rfl _ _ h1.2
      rwa [show (⟨g, 0, none⟩ : Addr).add (i * 2 + 1) = ⟨g, i * 2 + 1, none⟩ from by unfold Addr.add; split <;> simp_all] at this

/-- a row that is held has its length -/
theorem own_len {w : World} {base e size q : Nat} {xs : List Value} {ad : Option Addr} {l cap : Nat} (h : w.ownsRow base e size (.slice ad l cap) q xs) : l = q ∧ q ≤ cap := by
  rcases h.2 with ⟨hv, rfl⟩ | ⟨g, cap, cur, hv, _, _, hc, _⟩
  · simp only [Value.slice.injEq] at hv
    omega
  · simp only [Value.slice.injEq] at hv
    obtain ⟨_, rfl, rfl⟩ := hv
    exact ⟨rfl, hc⟩

end Go.Proofs.Qxb6000633a
