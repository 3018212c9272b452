/-
  copy between two rows of the call's own; ZZSetMoved.
-/
import Derived.Test.Qxb6000633aMoved
import Derived.Laws.CopyOwn
namespace Go.Proofs.Qxb6000633a
open Go.RowKit
attribute [local go_sem] run_store_float

/-- the world with row b holding g 0 .. g (n - 1) -/
def cpRow (w : World) (b n : Nat) (g : Nat → Value) : World := w.setRow b ((List.range n).map g).toArray

theorem cpRow_other (w : World) (b n : Nat) (g : Nat → Value) {k : Nat} (h : k ≠ b) : (cpRow w b n g).heap[k]? = w.heap[k]? := setRow_other w b k _ h
theorem cpRow_row {w : World} {b t n : Nat} {f : Nat → Value} (g : Nat → Value) (h : w.rowIs b t n f) : (cpRow w b n g).rowIs b t n g := by
  obtain ⟨cur, hb, hn, _⟩ := h
  refine ⟨_, setRow_heap w b cur _ t _ hb, by simp, fun i hi => ?_⟩
  simp [hi]
theorem cpRow_touch {P : Nat → Prop} {w0 w : World} (h : Touch P w0 w) {b : Nat} (hb : P b) (n : Nat) (g : Nat → Value) : Touch P w0 (cpRow w b n g) :=
  h.trans ⟨rfl, rfl, rfl, by simp [cpRow, World.setRow], fun k _ hk => cpRow_other w b n g (fun e => hk (e ▸ hb))⟩
theorem cpRow_drew (w : World) (b n : Nat) (g : Nat → Value) : cpRow w.drew b n g = (cpRow w b n g).drew := rfl

theorem run_copy_rows {w : World} (T ty e : TypeId) (hu : Try.prog.underlying T = some (.slice e)) (hs : (Try.prog.info? e).map (·.size) = some 1) {b b2 t t2 n : Nat} {f g : Nat → Value} (hd : w.rowIs b t n f) (hsr : w.rowIs b2 t2 n g) (h1 : ∀ i, (g i).oneCell' = true) :
    (Builtin.copy_ #[T, T] ty #[.slice (some ⟨b, 0, none⟩) n n, .slice (some ⟨b2, 0, none⟩) n n]).run Try.prog w = .ok (goInt n) (cpRow w b n g) := by
  obtain ⟨cur, hb, hn, _⟩ := hd
  have h := run_copy_row (P := Try.prog) w T T ty e b 0 n n ⟨b2, 0, none⟩ n n cur t ((List.range n).map g) hu hs hb (by simp) ?_ (by simp; omega) ?_
  · rw [h]
    unfold cpRow
    congr 2
    · simp
    · have e1 : cur.toList.drop (0 + ((List.range n).map g).length) = [] := by
        apply List.drop_eq_nil_of_le
        simp [hn]
      rw [e1]; simp
  · intro j v hj
    rw [List.getElem?_eq_some_iff] at hj
    obtain ⟨h2, h3⟩ := hj
    simp at h2 h3
    subst h3
    have h4 : (⟨b2, 0, none⟩ : Addr).add j = ⟨b2, j, none⟩ := by
      unfold Addr.add
      split
      · rename_i e; rw [e]
      · simp
    rw [h4]
    exact hsr.cell h2
  · intro v hv
    simp at hv
    obtain ⟨i, _, rfl⟩ := hv
    exact h1 i

/-- one block alone has turned -/
theorem FTab.only {w w' : World} {B n lv : Nat} {F : Nat → Nat → Nat} (h : FTab w B n lv F) {b : Nat} (e : ∀ k, k ≠ b → w'.heap[k]? = w.heap[k]?) (h0 : B ≠ b) (h1 : ∀ j, j < n → B + 1 + j ≠ b) : FTab w' B n lv F :=
  ⟨h.out.of_block (e _ h0), fun j hj => (h.row j hj).of_block (e _ (h1 j hj))⟩

section
variable {c : Cfg} {w w' : World} {s : St}
theorem Climb.newMZ (h : Climb c w s) (e : ∀ k, k ≠ c.MZ → w'.heap[k]? = w.heap[k]?) (m : Nat → Int) (hm : w'.rowIs c.MZ 3 c.lv (fun k => .int .i64 (m k))) : Climb c w' { s with mz := m } := by
  have p := h.sep
  exact ⟨p, h.S.of_block (e _ (row_ne h.S h.MZ (by decide))), h.AL.of_block (e _ (row_ne h.AL h.MZ (by decide))), h.CH.only e (row_ne h.CH.out h.MZ (by decide)) (fun j hj => row_ne (h.CH.row j hj) h.MZ (by decide)), h.UP.only e (row_ne h.UP.out h.MZ (by decide)) (fun j hj => row_ne (h.UP.row j hj) h.MZ (by decide)), h.DN.only e (row_ne h.DN.out h.MZ (by decide)) (fun j hj => row_ne (h.DN.row j hj) h.MZ (by decide)), h.Z.of_block (e _ p.zz), h.R.of_block (e _ (row_ne h.R h.MZ (by decide))), h.G.of_block (e _ (row_ne h.G h.MZ (by decide))), h.LO.of_block (e _ (row_ne h.LO h.MZ (by decide))), h.U.of_block (e _ (row_ne h.U h.MZ (by decide))), hm, h.MR.of_block (e _ (row_ne h.MR h.MZ (by decide)))⟩

theorem Climb.newMR (h : Climb c w s) (e : ∀ k, k ≠ c.MR → w'.heap[k]? = w.heap[k]?) (m : Nat → Nat) (hm : w'.rowIs c.MR 32 c.lv (fun k => .float .f64 (m k))) : Climb c w' { s with mr := m } := by
  have p := h.sep
  exact ⟨p, h.S.of_block (e _ (row_ne h.S h.MR (by decide))), h.AL.of_block (e _ p.am), h.CH.only e (row_ne h.CH.out h.MR (by decide)) (fun j hj e => (p.mlo j hj).1 e.symm), h.UP.only e (row_ne h.UP.out h.MR (by decide)) (fun j hj e => (p.mlo j hj).2.1 e.symm), h.DN.only e (row_ne h.DN.out h.MR (by decide)) (fun j hj e => (p.mlo j hj).2.2 e.symm), h.Z.of_block (e _ (row_ne h.Z h.MR (by decide))), h.R.of_block (e _ p.rr), h.G.of_block (e _ (row_ne h.G h.MR (by decide))), h.LO.of_block (e _ (row_ne h.LO h.MR (by decide))), h.U.of_block (e _ (row_ne h.U h.MR (by decide))), h.MZ.of_block (e _ (row_ne h.MZ h.MR (by decide))), hm⟩

theorem Climb.cpMZ (h : Climb c w s) : Climb c (cpRow w c.MZ c.lv (fun k => .int .i64 (s.zs k))) { s with mz := s.zs } :=
  h.newMZ (fun _ hk => cpRow_other _ _ _ _ hk) _ (cpRow_row _ h.MZ)
theorem Climb.cpMR (h : Climb c w s) : Climb c (cpRow w c.MR c.lv (fun k => .float .f64 (s.rs k))) { s with mr := s.rs } :=
  h.newMR (fun _ hk => cpRow_other _ _ _ _ hk) _ (cpRow_row _ h.MR)
end

theorem Try.size3 : (Try.prog.info? 3).map (·.size) = some 1 := by kernel_rfl
theorem Try.size32 : (Try.prog.info? 32).map (·.size) = some 1 := by kernel_rfl

set_option maxHeartbeats 1000000 in
set_option maxRecDepth 100000 in
theorem setMoved_any (c : Cfg) (w : World) (s : St) (h : Climb c w s) :
    Calls Try.prog 17 #[.pointer (some ⟨c.S, 0, none⟩)] w fun e w' => e = .returned (.tuple #[]) ∧ Climb c w' { s with mz := s.zs, mr := s.rs } ∧ Touch (own c) w w' := by
  refine calls_of_k fun R hR => ?_
  have k12 := h.f12
  have k5 := h.f5
  have hcp := run_copy_rows (w := w.drew) 36 3 3 Try.underlying36 Try.size3 h.drew.MZ h.drew.Z (fun i => rfl)
  rw [cpRow_drew] at hcp
  have bMR := own_MR c
  have HC := hide h.cpMZ.drew
  have HB := hide ((cpRow_touch (Touch.refl (own c) w) (own_MZ c) c.lv (fun k => .int .i64 (s.zs k))).drew)
  clear h
  go_enter Try.func17, Try.ntmps17
  go_wp2
  go_region
  clear hcp k12 k5
  generalize World.drew _ = w1 at HC HB ⊢
  have k13 := HC.out.f13
  have k6 := HC.out.f6
  have hcp := run_copy_rows (w := w1.drew) 30 3 32 Try.underlying30 Try.size32 HC.out.drew.MR HC.out.drew.R (fun i => rfl)
  rw [cpRow_drew] at hcp
  have HC2 := hide HC.out.cpMR.drew
  have HB2 := hide ((cpRow_touch HB.out bMR c.lv (fun k => .float .f64 (s.rs k))).drew)
  clear HC HB
  go_wp2
  go_region
  clear hcp k13 k6
  go_wp2
  go_end0
  exact hR.out _ _ ⟨rfl, HC2.out, HB2.out⟩

set_option maxHeartbeats 400000 in
theorem zzTally_any (c : Cfg) (w : World) (s : St) (Q : Nat → Nat → Nat) (h : Climb c w s) (hq : ∀ j k, j < c.n → k < c.lv → s.ch j k = qb (Q j k)) (hn : c.n ≤ 1048576) (hlv : c.lv ≤ 1048576) (hh : ∀ k, k < c.lv → Hc Q k c.n ≤ 1000) :
    Calls Try.prog 16 #[.pointer (some ⟨c.S, 0, none⟩)] w fun e w' => e = .returned (.tuple #[]) ∧ Climb c w' (stK s Q c.n c.lv) ∧ Touch (own c) w w' := by
  refine calls_of_k fun R hR => ?_
  have HT := hide (tally_any c w s Q h hq hn hlv hh)
  clear h hq hh
  go_enter Try.func16, Try.ntmps16
  go_wp2_with fail
  refine HT.out.mono ?_
  rintro e w' ⟨rfl, h1, h2⟩
  have H1 := hide h1
  have H2 := hide h2
  clear h1 h2
  go_wp2_with fail
  go_end0
  exact hR.out _ _ ⟨rfl, H1.out, H2.out⟩

set_option maxHeartbeats 400000 in
theorem zzMoved_any (c : Cfg) (w : World) (s : St) (Q U D : Nat → Nat → Nat) (f t : Nat) (Z1 H1 : Nat → Nat) (h : Climb c w s)
    (hq : ∀ j k, j < c.n → k < c.lv → s.ch j k = qb (Q j k)) (hu : ∀ j k, j < c.n → k < c.lv → s.up j k = qb (U j k)) (hd : ∀ j k, j < c.n → k < c.lv → s.dn j k = qb (D j k))
    (hn : c.n ≤ 1048576) (hlv : c.lv ≤ 1048576) (hf : f < c.n) (ht : t < c.n) (hr : Room c s Q U D f t Z1 H1) :
    Calls Try.prog 18 #[.pointer (some ⟨c.S, 0, none⟩), .int .i64 f, .int .i64 t] w fun e w' => e = .returned (.float .f64 (vsum Z1 H1 c.lv)) ∧ Climb c w' (stN s Z1 H1 c.lv) ∧ Touch (own c) w w' := by
  refine calls_of_k fun R hR => ?_
  have HT := hide (moved_any c w s Q U D f t Z1 H1 h hq hu hd hn hlv hf ht hr)
  clear h hq hu hd hr
  go_enter Try.func18, Try.ntmps18
  go_wp2_with fail
  refine HT.out.mono ?_
  rintro e w' ⟨rfl, h1, h2⟩
  have H1 := hide h1
  have H2 := hide h2
  clear h1 h2
  go_wp2_with fail
  exact hR.out _ _ ⟨rfl, H1.out, H2.out⟩

set_option maxHeartbeats 400000 in
theorem movedZeros_any (c : Cfg) (w : World) (s : St) (h : Climb c w s) :
    Calls Try.prog 21 #[.pointer (some ⟨c.S, 0, none⟩)] w fun e w' => e = .returned (.slice (some ⟨c.MZ, 0, none⟩) c.lv c.lv) ∧ w' = w := by
  refine calls_of_k fun R hR => ?_
  have k12 := h.f12
  go_enter Try.func21, Try.ntmps21
  go_wp2
  exact hR.out _ _ ⟨rfl, rfl⟩

end Go.Proofs.Qxb6000633a
