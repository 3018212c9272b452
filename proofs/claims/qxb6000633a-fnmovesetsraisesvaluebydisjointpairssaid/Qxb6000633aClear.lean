/-
  clear of a row of Booleans; what a set of pairs leaves in memory.
-/
import Derived.Test.Qxb6000633aPlainD
namespace Go.Proofs.Qxb6000633a
open Go.RowKit

theorem zeroCells_bool (n : Nat) : (Builtin.zeroCells #[.bool false] n).toList = (List.range n).map (fun _ => Value.bool false) := by
  unfold Builtin.zeroCells
  apply List.ext_getElem
  · simp
  · intro i h1 h2
    simp [Nat.mod_one]

theorem run_clear_row {w : World} (ty : TypeId) {b n : Nat} {f : Nat → Value} (hd : w.rowIs b 4 n f) : (Builtin.clear_ #[57] ty #[.slice (some ⟨b, 0, none⟩) n n]).run Try.prog w = .ok (.tuple #[]) (cpRow w b n (fun _ => .bool false)) := by
  obtain ⟨cur, hb, hn, _⟩ := hd
  obtain ⟨i4, hi4, hz4⟩ := Option.map_eq_some_iff.1 Try.info4'
  simp only [Prod.mk.injEq] at hz4
  cases n with
  | zero =>
    have e : cpRow w b 0 (fun _ => .bool false) = w := by
      have hc : cur = #[] := Array.eq_empty_of_size_eq_zero hn
      subst hc
      exact setRow_self w b #[] 4 (0, 0) hb
    rw [e]
    simp [Builtin.clear_, run_underlying Try.underlying57]
  | succ n =>
    have hst := run_storeCells_at (P := Try.prog) b 0 4 ((List.range (n + 1)).map (fun _ => Value.bool false)) 0 cur w hb (by simp; omega) (fun v hv => by simp at hv; rw [← hv.2]; rfl)
    have hdr : cur.toList.drop (0 + 0 + ((List.range (n + 1)).map (fun _ => Value.bool false)).length) = [] := by
      apply List.drop_eq_nil_of_le
      simp; omega
    rw [hdr] at hst
    have hzv : ∀ w, (zeroValue 4).run Try.prog w = .ok (.bool false) w := fun w => by simp [zeroValue, typeInfo, hi4, hz4.1]
    simp only [Builtin.clear_, run_underlying Try.underlying57, Sem.run_bind, Sem.run_pure, Result.andThen_ok, List.getElem?_toArray, List.getElem?_cons_zero, hzv, Value.cells, zeroCells_bool, hst]
    simp [cpRow]

section
variable {c : Cfg} {w w' : World} {s : St}
theorem Climb.newU (h : Climb c w s) (e : ∀ k, k ≠ c.U → w'.heap[k]? = w.heap[k]?) (m : Nat → Bool) (hm : w'.rowIs c.U 4 c.n (fun k => .bool (m k))) : Climb c w' { s with us := m } := by
  have p := h.sep
  exact ⟨p, h.S.of_block (e _ (row_ne h.S h.U (by decide))), h.AL.of_block (e _ (row_ne h.AL h.U (by decide))), h.CH.only e (row_ne h.CH.out h.U (by decide)) (fun j hj => row_ne (h.CH.row j hj) h.U (by decide)), h.UP.only e (row_ne h.UP.out h.U (by decide)) (fun j hj => row_ne (h.UP.row j hj) h.U (by decide)), h.DN.only e (row_ne h.DN.out h.U (by decide)) (fun j hj => row_ne (h.DN.row j hj) h.U (by decide)), h.Z.of_block (e _ (row_ne h.Z h.U (by decide))), h.R.of_block (e _ (row_ne h.R h.U (by decide))), h.G.of_block (e _ (row_ne h.G h.U (by decide))), h.LO.of_block (e _ (row_ne h.LO h.U (by decide))), hm, h.MZ.of_block (e _ (row_ne h.MZ h.U (by decide))), h.MR.of_block (e _ (row_ne h.MR h.U (by decide)))⟩
theorem Climb.cpU (h : Climb c w s) : Climb c (cpRow w c.U c.n (fun _ => .bool false)) { s with us := fun _ => false } :=
  h.newU (fun _ hk => cpRow_other _ _ _ _ hk) _ (cpRow_row _ h.U)
end

/-- the state behind q pairs tried -/
def midS (c : Cfg) (s : St) (Q U D : Nat → Nat → Nat) (F T : Nat → Nat) (q : Nat) (pa : Option Addr) (pc : Nat) : St :=
  { s with us := seenF F T q, pa := pa, pl := q, pc := pc, mz := fun k => (Zc (Sq Q U D F T q) k c.n : Nat), mr := fun k => pw (Hc (Sq Q U D F T q) k c.n) }

/-- q pairs have been tried -/
structure SetMid (c : Cfg) (w wr : World) (s : St) (Q U D : Nat → Nat → Nat) (F T : Nat → Nat) (q : Nat) (pa : Option Addr) (pc : Nat) : Prop where
  base : Climb c w s
  climb : Climb c wr (midS c s Q U D F T q pa pc)
  script : Script c.n q F T
  named : ∀ i, i < q → Named c (F i) (T i)
  row : wr.ownsRow w.heap.size 72 2 (.slice pa q pc) q (pairL F T q)
  touch : Touch (own c) w wr

theorem ownsRow_drewN {w : World} {base e size n : Nat} {v : Value} {xs : List Value} (h : w.ownsRow base e size v n xs) (m : Nat) : (w.drewN m).ownsRow base e size v n xs := ownsRow_touch (P := fun _ => False) h ((Touch.refl _ _).drewN m) (fun _ h => h.elim)

theorem SetMid.drewN {c : Cfg} {w wr : World} {s : St} {Q U D : Nat → Nat → Nat} {F T : Nat → Nat} {q : Nat} {pa : Option Addr} {pc : Nat} (h : SetMid c w wr s Q U D F T q pa pc) (m : Nat) : SetMid c w (wr.drewN m) s Q U D F T q pa pc :=
  ⟨h.base, h.climb.of_block fun _ _ => rfl, h.script, h.named, ownsRow_drewN h.row m, h.touch.drewN m⟩

/-- the best set so far: the first 'most' pairs -/
def BestS (c : Cfg) (Q U D : Nat → Nat → Nat) (F T : Nat → Nat) (q most b : Nat) : Prop :=
  NN b ∧ vF Q c.n c.lv ≤ b ∧ most ≤ q ∧ (most = 0 ∨ (b = vF (Sq Q U D F T most) c.n c.lv ∧ vF Q c.n c.lv < b))

/-- a list's next job: none is left, or it is free -/
def FreeG (c : Cfg) (F T : Nat → Nat) (q gi : Nat) : Prop := gi ≤ c.ng ∧ ∀ tn : Nat, gi < c.ng → c.GJ gi = tn → seenF F T q tn = false
def FreeL (c : Cfg) (F T : Nat → Nat) (q gi li : Nat) : Prop := li ≤ c.nl ∧ ∀ fn : Nat, li < c.nl → c.LJ li = fn → seenF F T q fn = false ∧ (gi < c.ng → c.GJ gi ≠ fn)

theorem own_form {w : World} {base e size n : Nat} {v : Value} {xs : List Value} (h : w.ownsRow base e size v n xs) : ∃ pa pc, v = .slice pa n pc := by
  rcases h.2 with ⟨rfl, rfl⟩ | ⟨g, cap, cur, rfl, _⟩
  · exact ⟨_, _, rfl⟩
  · exact ⟨_, _, rfl⟩

theorem Sq_more (Q U D : Nat → Nat → Nat) (F T : Nat → Nat) (q f t : Nat) : Sq Q U D (upd F q f) (upd T q t) (q + 1) = swp (Sq Q U D F T q) U D f t := by
  show swp (Sq Q U D (upd F q f) (upd T q t) q) U D (upd F q f q) (upd T q t q) = _
  rw [upd_same, upd_same, ← Sq_congr (below_pair F T q f t)]

theorem seen_more (F T : Nat → Nat) (q f t j : Nat) : upd (upd (seenF F T q) t true) f true j = seenF (upd F q f) (upd T q t) (q + 1) j := by
  show _ = upd (upd (seenF (upd F q f) (upd T q t) q) (upd F q f q) true) (upd T q t q) true j
  rw [upd_same, upd_same, ← seenF_congr (below_pair F T q f t)]
  unfold upd
  by_cases e1 : j = t <;> by_cases e2 : j = f <;> simp [e1, e2]

/-- one more pair -/
theorem SetMid.next {c : Cfg} {w wr w5 : World} {s : St} {Q U D : Nat → Nat → Nat} {F T : Nat → Nat} {q f t : Nat} {pa pa' : Option Addr} {pc pc' : Nat} (h : SetMid c w wr s Q U D F T q pa pc)
    (hn : Named c f t) (s1 : seenF F T q f = false) (s2 : seenF F T q t = false)
    (h5 : Climb c w5 (stN { midS c s Q U D F T q pa pc with us := upd (upd (seenF F T q) t true) f true, pa := pa', pl := q + 1, pc := pc' } (fun k => Zc (swp (Sq Q U D F T q) U D f t) k c.n) (fun k => Hc (swp (Sq Q U D F T q) U D f t) k c.n) c.lv))
    (ht : Touch (own c) w w5) (hrow : w5.ownsRow w.heap.size 72 2 (.slice pa' (q + 1) pc') (q + 1) (pairL F T q ++ [.int .i64 (f : Nat), .int .i64 (t : Nat)])) :
    SetMid c w w5 s Q U D (upd F q f) (upd T q t) (q + 1) pa' pc' := by
  refine ⟨h.base, ?_, h.script.more hn.hf hn.ht hn.ne s1 s2, ?_, ?_, ht⟩
  · refine h5.congr (fun _ _ => rfl) (fun _ _ _ _ => rfl) rfl rfl (fun _ _ => rfl) (fun _ _ => rfl) rfl (fun j _ => seen_more F T q f t j) rfl rfl rfl (fun k hk => ?_) (fun k hk => ?_)
    · simp [stN, midS, mix, hk, Sq_more]
    · simp [stN, midS, mix, hk, Sq_more]
  · intro i hi
    by_cases e : i = q
    · subst e; rw [upd_same, upd_same]; exact hn
    · rw [upd_other _ _ e, upd_other _ _ e]; exact h.named i (by omega)
  · have e : pairL (upd F q f) (upd T q t) (q + 1) = pairL F T q ++ [.int .i64 (f : Nat), .int .i64 (t : Nat)] := by
      show pairL (upd F q f) (upd T q t) q ++ [.int .i64 (upd F q f q : Nat), .int .i64 (upd T q t q : Nat)] = _
      rw [upd_same, upd_same, ← pairL_congr (below_pair F T q f t)]
    rw [e]; exact hrow

theorem BestS.keep {c : Cfg} {Q U D : Nat → Nat → Nat} {F T : Nat → Nat} {q most b : Nat} (h : BestS c Q U D F T q most b) (f t : Nat) : BestS c Q U D (upd F q f) (upd T q t) (q + 1) most b := by
  obtain ⟨h1, h2, h3, h4⟩ := h
  refine ⟨h1, h2, by omega, ?_⟩
  rcases h4 with h4 | ⟨h4, h5⟩
  · exact .inl h4
  · rw [Sq_congr (fun i hi => below_pair F T q f t i (by omega))] at h4
    exact .inr ⟨h4, h5⟩

theorem BestS.raise {c : Cfg} {Q U D : Nat → Nat → Nat} {F T : Nat → Nat} {q most b : Nat} (h : BestS c Q U D F T q most b) {f t : Nat} (hv : NN (vF (swp (Sq Q U D F T q) U D f t) c.n c.lv)) (hlt : b < vF (swp (Sq Q U D F T q) U D f t) c.n c.lv) :
    BestS c Q U D (upd F q f) (upd T q t) (q + 1) (q + 1) (vF (swp (Sq Q U D F T q) U D f t) c.n c.lv) := by
  obtain ⟨_, h2, _, _⟩ := h
  refine ⟨hv, by omega, by omega, .inr ⟨by rw [Sq_more], by omega⟩⟩

/-- the state behind the first i moves of a set -/
def doneS (s0 s : St) (sa ta : Nat → Nat) (F T : Nat → Nat) (i : Nat) : St := { s0 with al := alM s.al sa ta F T i, ch := chM s.ch s.dn s.up F T i }

theorem done_set {c : Cfg} {s s' : St} {Q U D : Nat → Nat → Nat} {dd : Nat} {sa ta : Nat → Nat} (hr : Ready c s Q U D dd sa ta) {F T : Nat → Nat} {m : Nat} (hs : Script c.n m F T) (hn : ∀ i, i < m → Named c (F i) (T i)) (h0 : m ≠ 0)
    (up : s'.up = s.up) (dn : s'.dn = s.dn) (al : s'.al = alM s.al sa ta F T m) (ch : s'.ch = chM s.ch s.dn s.up F T m) (val : s'.val = vF (Sq Q U D F T m) c.n c.lv) (hlt : vF Q c.n c.lv < vF (Sq Q U D F T m) c.n c.lv) :
    Done (fun k => 1 ≤ k) c s s' sa ta (role F T m) true := by
  obtain ⟨c1, c2⟩ := cnt_role hs
  refine ⟨up, dn, fun j hj => ?_, c1.trans c2.symm, fun h => (by cases h), fun _ => ⟨?_, ?_⟩, ?_⟩
  · rw [al, ch]
    rcases part_M s.al sa ta s.ch s.dn s.up F T m j with ⟨a, b, d⟩ | ⟨a, b, d, i, hi, e⟩ | ⟨a, b, d, i, hi, e⟩
    · exact .inl ⟨a, b, fun k _ => by rw [d]⟩
    · exact .inr (.inl ⟨a, b, fun k _ => by rw [d], e ▸ (hn i hi).inL⟩)
    · exact .inr (.inr ⟨a, b, fun k _ => by rw [d], e ▸ (hn i hi).inG⟩)
  · show 1 ≤ _
    rw [c1]; omega
  · rw [val, hr.val]; exact hlt
  · rw [val]; exact vsum_fn _ _ hr.lv

theorem done_none {c : Cfg} {s s' : St} {Q U D : Nat → Nat → Nat} {dd : Nat} {sa ta : Nat → Nat} (hr : Ready c s Q U D dd sa ta) (up : s'.up = s.up) (dn : s'.dn = s.dn) (al : s'.al = s.al) (ch : s'.ch = s.ch) (val : s'.val = s.val) :
    Done (fun k => 1 ≤ k) c s s' sa ta (fun _ => 0) false :=
  ⟨up, dn, fun j _ => .inl ⟨rfl, by rw [al], fun _ _ => by rw [ch]⟩, (cnt_none (fun _ _ => rfl)).trans (cnt_none (fun _ _ => rfl)).symm, fun _ => ⟨cnt_none (fun _ _ => rfl), val⟩, fun h => (by cases h), by rw [val, hr.val]; exact vsum_fn _ _ hr.lv⟩

theorem Sq_few {c : Cfg} {s : St} {Q U D : Nat → Nat → Nat} {dd : Nat} {sa ta : Nat → Nat} (hr : Ready c s Q U D dd sa ta) (F T : Nat → Nat) (m k : Nat) (hk : k < c.lv) : Hc (Sq Q U D F T m) k c.n ≤ 1000 :=
  Nat.le_trans ((Sq_mixed Q U D F T m).few k c.n) (hr.few k hk)

end Go.Proofs.Qxb6000633a
