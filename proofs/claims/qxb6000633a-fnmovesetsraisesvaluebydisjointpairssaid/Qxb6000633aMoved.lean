/-
  moved.
-/
import Derived.Test.Qxb6000633aTally
namespace Go.Proofs.Qxb6000633a
open Go.RowKit
attribute [local go_sem] run_store_float

/-- does a kind bear nothing; does it bear a half -/
def zb (q : Nat) : Nat := if q = 0 then 1 else 0
def hlf (q : Nat) : Nat := if q = 1 then 1 else 0
theorem zb_zero : zb 0 = 1 := rfl
theorem hlf_zero : hlf 0 = 0 := rfl
theorem zb_pos {q : Nat} (h : q ≠ 0) : zb q = 0 := by simp [zb, h]
theorem zb_le (q : Nat) : zb q ≤ 1 := by unfold zb; split <;> omega
theorem hlf_le (q : Nat) : hlf q ≤ 1 := by unfold hlf; split <;> omega
theorem qb_pos {q : Nat} (h : q ≠ 0) : qb q = pw (hlf q) := by
  unfold qb hlf
  rw [if_neg h]
  split <;> rfl

/-- the room of a round, level k being worked at -/
def stM (s : St) (k : Nat) (z : Int) (r : Nat) : St := { s with mz := upd s.mz k z, mr := upd s.mr k r }
/-- k levels are done -/
def stN (s : St) (Z1 H1 : Nat → Nat) (k : Nat) : St := { s with mz := mix k (fun k => (Z1 k : Int)) s.mz, mr := mix k (fun k => pw (H1 k)) s.mr }

section
variable {c : Cfg} {w : World} {s : St} {k : Nat} {z : Int} {r : Nat}
theorem stM_mz (h : Climb c w (stM s k z r)) (x : Int) : Climb c (w.setCell ⟨c.MZ, k, none⟩ (.int .i64 x)) (stM s k x r) := by
  have := h.setMZ k x
  unfold stM at this ⊢
  simp only [upd_upd] at this
  exact this
theorem stM_mr (h : Climb c w (stM s k z r)) (x : Nat) : Climb c (w.setCell ⟨c.MR, k, none⟩ (.float .f64 x)) (stM s k z x) := by
  have := h.setMR k x
  unfold stM at this ⊢
  simp only [upd_upd] at this
  exact this
theorem stM_z (h : Climb c w (stM s k z r)) (hk : k < c.lv) : w.cell? ⟨c.MZ, k, none⟩ = some (.int .i64 z) := by
  rw [h.MZ.cell hk]
  show some (Value.int .i64 (upd _ k z k)) = _
  rw [upd_same]
theorem stM_r (h : Climb c w (stM s k z r)) (hk : k < c.lv) : w.cell? ⟨c.MR, k, none⟩ = some (.float .f64 r) := by
  rw [h.MR.cell hk]
  show some (Value.float .f64 (upd _ k r k)) = _
  rw [upd_same]
theorem stN_begin (Z1 H1 : Nat → Nat) (h : Climb c w (stN s Z1 H1 k)) : Climb c w (stM (stN s Z1 H1 k) k (s.mz k) (s.mr k)) := by
  have e1 : (stN s Z1 H1 k).mz k = s.mz k := by simp [stN, mix]
  have e2 : (stN s Z1 H1 k).mr k = s.mr k := by simp [stN, mix]
  unfold stM
  rw [← e1, ← e2, upd_id, upd_id]
  exact h
theorem stN_done (Z1 H1 : Nat → Nat) (h : Climb c w (stM (stN s Z1 H1 k) k (Z1 k) (pw (H1 k)))) : Climb c w (stN s Z1 H1 (k + 1)) := by
  unfold stM stN at h
  rw [mix_succ k (fun k => (Z1 k : Int)), mix_succ k (fun k => pw (H1 k))] at h
  exact h
end

/-- a sum below a bound -/
def sm (g : Nat → Nat) : Nat → Nat
  | 0 => 0
  | i + 1 => sm g i + g i

theorem sm_le {g : Nat → Nat} (h : ∀ i, g i ≤ 1) (q : Nat) : sm g q ≤ q := by
  induction q with
  | zero => exact Nat.le_refl _
  | succ q ih => have := h q; show sm g q + g q ≤ q + 1; omega
theorem sm_succ (g : Nat → Nat) (q : Nat) : sm g (q + 1) = sm g q + g q := rfl
theorem sm_mono (g : Nat → Nat) {q m : Nat} (h : q ≤ m) : sm g q ≤ sm g m := by
  induction m with
  | zero => have : q = 0 := by omega
            subst this; exact Nat.le_refl _
  | succ m ih =>
    by_cases e : q = m + 1
    · subst e; exact Nat.le_refl _
    · have := ih (by omega)
      rw [sm_succ]; omega

/-- the i-th of a pair -/
def pr (a b i : Nat) : Nat := if i = 0 then a else b

theorem sm2 (F : Nat → Nat) (a b : Nat) : sm (fun i => F (pr a b i)) 2 = F a + F b := by simp [sm, pr]

theorem index2 (a b i : Nat) (hi : i < 2) (w : World) : (Instr.index 70 (.agg #[.float .f64 (qb a), .float .f64 (qb b)]) (.int .i64 (i : Int))).run Try.prog w = .ok (.float .f64 (qb (pr a b i))) w := by
  have h0 : ∀ (x y : Nat) (w : World), (Instr.index 70 (.agg #[.float .f64 x, .float .f64 y]) (.int .i64 ((0 : Nat) : Int))).run Try.prog w = .ok (.float .f64 x) w := fun _ _ _ => by kernel_rfl
  have h1 : ∀ (x y : Nat) (w : World), (Instr.index 70 (.agg #[.float .f64 x, .float .f64 y]) (.int .i64 ((1 : Nat) : Int))).run Try.prog w = .ok (.float .f64 y) w := fun _ _ _ => by kernel_rfl
  match i, hi with
  | 0, _ => exact h0 _ _ _
  | 1, _ => exact h1 _ _ _

/-- what moved is told of the tallies -/
structure Room (c : Cfg) (s : St) (Q U D : Nat → Nat → Nat) (f t : Nat) (Z1 H1 : Nat → Nat) : Prop where
  mz : ∀ k, k < c.lv → -1048576 ≤ s.mz k ∧ s.mz k ≤ 1048576 ∧ s.mz k - zb (Q f k) - zb (Q t k) + zb (D f k) + zb (U t k) = (Z1 k : Int)
  mr : ∀ k, k < c.lv → ∃ h0, s.mr k = pw h0 ∧ hlf (Q f k) + hlf (Q t k) ≤ h0 ∧ h0 ≤ 1000 ∧ H1 k = h0 - hlf (Q f k) - hlf (Q t k) + hlf (D f k) + hlf (U t k) ∧ H1 k ≤ 1000

set_option maxHeartbeats 1000000 in
set_option maxRecDepth 100000 in
theorem moved_any (c : Cfg) (w : World) (s : St) (Q U D : Nat → Nat → Nat) (f t : Nat) (Z1 H1 : Nat → Nat) (h : Climb c w s)
    (hq : ∀ j k, j < c.n → k < c.lv → s.ch j k = qb (Q j k)) (hu : ∀ j k, j < c.n → k < c.lv → s.up j k = qb (U j k)) (hd : ∀ j k, j < c.n → k < c.lv → s.dn j k = qb (D j k))
    (_hn : c.n ≤ 1048576) (hlv : c.lv ≤ 1048576) (hf : f < c.n) (ht : t < c.n) (hr : Room c s Q U D f t Z1 H1) :
    Calls Try.prog 41 #[.pointer (some ⟨c.S, 0, none⟩), .int .i64 f, .int .i64 t] w fun e w' => e = .returned (.float .f64 (vsum Z1 H1 c.lv)) ∧ Climb c w' (stN s Z1 H1 c.lv) ∧ Touch (own c) w w' := by
  refine calls_of_k fun R hR => ?_
  have HQ := hide hq
  have HU := hide hu
  have HD := hide hd
  have bMZ := own_MZ c
  have bMR := own_MR c
  have k12 := h.f12
  clear hq hu hd
  go_enter Try.func41, Try.ntmps41
  go_wp2
  clear k12
  go_loopg [7, 18] c.lv (fun g v i wr => ∃ k : Nat, k + g = c.lv ∧ i = .int .i64 k ∧ v = .float .f64 (vsum Z1 H1 k) ∧ Climb c wr (stN s Z1 H1 k) ∧ Touch (own c) w wr)
  case atStart => exact ⟨0, by omega, rfl, rfl, by simpa [stN, mix_zero] using h, Touch.refl _ _⟩
  case round =>
    obtain ⟨k, hk, rfl, rfl, hc, hb⟩ := hrel
    by_cases hkl : k < c.lv
    · have k2 := hc.f2
      have a1 := hc.CH.out.cell hf
      have a2 : wr.cell? ⟨c.CH + 1 + f, k, none⟩ = some (.float .f64 (s.ch f k)) := (hc.CH.row f hf).cell hkl
      have b1 := hc.CH.out.cell ht
      have b2 : wr.cell? ⟨c.CH + 1 + t, k, none⟩ = some (.float .f64 (s.ch t k)) := (hc.CH.row t ht).cell hkl
      rw [HQ.out f k hf hkl] at a2
      rw [HQ.out t k ht hkl] at b2
      have HC := hide (stN_begin Z1 H1 hc).drew
      have HB := hide hb.drew
      clear hc hb
      obtain ⟨m1, m2, m3⟩ := hr.mz k hkl
      obtain ⟨h0, g1, g2, g3, g4, g5⟩ := hr.mr k hkl
      rw [g1] at HC
      have M3 := hide m3
      have G4 := hide g4
      have G := hide (And.intro g2 (And.intro g3 g5))
      clear m3 g1 g2 g3 g4 g5
      go_wp2
      go_region
      clear k2 a1 a2 b1 b2
      generalize World.drew _ = w1 at HC HB ⊢
      go_wp2
      go_loopg [42] 2 (fun g i wr => ∃ q : Nat, q + g = 2 ∧ i = .int .i64 q ∧ Climb c wr (stM (stN s Z1 H1 k) k (s.mz k - sm (fun i => zb (pr (Q f k) (Q t k) i)) q) (pw (h0 - sm (fun i => hlf (pr (Q f k) (Q t k) i)) q))) ∧ Touch (own c) w wr)
      case atStart => exact ⟨0, by omega, rfl, by simpa [sm] using HC.out, HB.out⟩
      case round =>
        as_aux_lemma =>
          obtain ⟨q, hq, rfl, hc, hb⟩ := hrel
          clear HC HB
          have e1 := sm_le (g := fun i => zb (pr (Q f k) (Q t k) i)) (fun i => zb_le _) q
          by_cases hq2 : q < 2
          · have hix := index2 (Q f k) (Q t k) q hq2
            have E2 := hide (sm_mono (fun i => hlf (pr (Q f k) (Q t k) i)) (q := q + 1) (m := 2) (by omega))
            have E3 := hide (sm2 hlf (Q f k) (Q t k))
            obtain ⟨a, ha⟩ : ∃ a, a = pr (Q f k) (Q t k) q := ⟨_, rfl⟩
            have S1 := hide (sm_succ (fun i => zb (pr (Q f k) (Q t k) i)) q)
            have S2 := hide (sm_succ (fun i => hlf (pr (Q f k) (Q t k) i)) q)
            rw [← ha] at hix
            have S1' : Hid (sm (fun i => zb (pr (Q f k) (Q t k) i)) (q + 1) = sm (fun i => zb (pr (Q f k) (Q t k) i)) q + zb a) := by rw [ha]; exact S1.out
            have S2' : Hid (sm (fun i => hlf (pr (Q f k) (Q t k) i)) (q + 1) = sm (fun i => hlf (pr (Q f k) (Q t k) i)) q + hlf a) := by rw [ha]; exact S2.out
            clear S1 S2 ha
            obtain ⟨x, hx⟩ : ∃ x, x = sm (fun i => zb (pr (Q f k) (Q t k) i)) q := ⟨_, rfl⟩
            obtain ⟨y, hy⟩ : ∃ y, y = sm (fun i => hlf (pr (Q f k) (Q t k) i)) q := ⟨_, rfl⟩
            rw [← hx] at hc S1' e1
            rw [← hy] at hc S2'
            clear hx hy
            have hyb : Hid (y + hlf a ≤ h0) := by have := G.out.1; have := E2.out; rw [S2'.out, E3.out] at this; exact (by omega : y + hlf a ≤ h0)
            clear E2 E3
            by_cases a0 : a = 0
            · subst a0
              have k12 := hc.f12
              have z1 := stM_z hc hkl
              have z2 := hc.MZ.frozen k
              have hq0 := eq_zero_true
              rw [qb_zero] at hix
              have HC := hide (stM_mz hc (s.mz k - x - 1))
              have HB := hide (hb.setCell (p := ⟨c.MZ, k, none⟩) bMZ (.int .i64 (s.mz k - x - 1)))
              clear hc hb
              go_wp2
              go_roundg (2 - (q + 1))
              case measure => omega
              case rel => exact ⟨q + 1, by omega, by go_num, by
                have e : s.mz k - ((sm (fun i => zb (pr (Q f k) (Q t k) i)) (q + 1) : Nat) : Int) = s.mz k - x - 1 := by rw [S1'.out, zb_zero]; omega
                rw [e, S2'.out, hlf_zero]; exact HC.out, HB.out⟩
            · have k13 := hc.f13
              have r1 := stM_r hc hkl
              have r2 := hc.MR.frozen k
              rw [qb_pos a0] at hix
              have hq0 := eq_zero_false (h := hlf a) (by have := hlf_le a; omega)
              have hm := fun w => run_quo w (pw (h0 - y)) (pw (hlf a)) (pw (h0 - y - hlf a)) (div_pw (by have := hyb.out; omega) (by have := G.out.2.1; omega))
              have HC := hide (stM_mr hc (pw (h0 - y - hlf a)))
              have HB := hide (hb.setCell (p := ⟨c.MR, k, none⟩) bMR (.float .f64 (pw (h0 - y - hlf a))))
              clear hc hb
              go_wp2
              go_roundg (2 - (q + 1))
              case measure => omega
              case rel => exact ⟨q + 1, by omega, by go_num, by
                rw [S1'.out, S2'.out, zb_pos a0, Nat.add_zero, ← Nat.sub_sub]; exact HC.out, HB.out⟩
          · have eq2 : q = 2 := by omega
            subst eq2
            rw [sm2 zb, sm2 hlf] at hc
            rw [sm2 zb] at e1
            obtain ⟨y0, hy0⟩ : ∃ y, y = s.mz k - ((zb (Q f k) + zb (Q t k) : Nat) : Int) := ⟨_, rfl⟩
            obtain ⟨h2, hh2⟩ : ∃ h, h = h0 - (hlf (Q f k) + hlf (Q t k)) := ⟨_, rfl⟩
            have M4 : Hid (y0 + zb (D f k) + zb (U t k) = (Z1 k : Int)) := by have := M3.out; exact (by omega : y0 + zb (D f k) + zb (U t k) = (Z1 k : Int))
            have G5 : Hid (H1 k = h2 + hlf (D f k) + hlf (U t k)) := by have := G4.out; have := G.out.1; exact (by omega : H1 k = h2 + hlf (D f k) + hlf (U t k))
            have yb1 : -1048578 ≤ y0 := by omega
            have yb2 : y0 ≤ 1048576 := by omega
            rw [← hy0, ← hh2] at hc
            clear hy0 hh2 M3 G4 e1 m1 m2
            have k4 := hc.f4
            have k3 := hc.f3
            have a1 := hc.DN.out.cell hf
            have a2 : wr.cell? ⟨c.DN + 1 + f, k, none⟩ = some (.float .f64 (s.dn f k)) := (hc.DN.row f hf).cell hkl
            have b1 := hc.UP.out.cell ht
            have b2 : wr.cell? ⟨c.UP + 1 + t, k, none⟩ = some (.float .f64 (s.up t k)) := (hc.UP.row t ht).cell hkl
            rw [HD.out f k hf hkl] at a2
            rw [HU.out t k ht hkl] at b2
            have HC := hide hc.drew
            have HB := hide hb.drew
            clear hc hb
            go_wp2
            go_region
            clear k3 k4 a1 a2 b1 b2
            generalize World.drew _ = w2 at HC HB ⊢
            go_wp2
            go_loopg [88] 2 (fun g i wr => ∃ q : Nat, q + g = 2 ∧ i = .int .i64 q ∧ Climb c wr (stM (stN s Z1 H1 k) k (y0 + sm (fun i => zb (pr (D f k) (U t k) i)) q) (pw (h2 + sm (fun i => hlf (pr (D f k) (U t k) i)) q))) ∧ Touch (own c) w wr)
            case atStart => exact ⟨0, by omega, rfl, by simpa [sm] using HC.out, HB.out⟩
            case round =>
              as_aux_lemma =>
                obtain ⟨q, hq, rfl, hc, hb⟩ := hrel
                clear HC HB
                have e1 := sm_le (g := fun i => zb (pr (D f k) (U t k) i)) (fun i => zb_le _) q
                by_cases hq2 : q < 2
                · have hix := index2 (D f k) (U t k) q hq2
                  have E2 := hide (sm_mono (fun i => hlf (pr (D f k) (U t k) i)) (q := q + 1) (m := 2) (by omega))
                  have E3 := hide (sm2 hlf (D f k) (U t k))
                  obtain ⟨a, ha⟩ : ∃ a, a = pr (D f k) (U t k) q := ⟨_, rfl⟩
                  have S1 := hide (sm_succ (fun i => zb (pr (D f k) (U t k) i)) q)
                  have S2 := hide (sm_succ (fun i => hlf (pr (D f k) (U t k) i)) q)
                  rw [← ha] at hix
                  have S1' : Hid (sm (fun i => zb (pr (D f k) (U t k) i)) (q + 1) = sm (fun i => zb (pr (D f k) (U t k) i)) q + zb a) := by rw [ha]; exact S1.out
                  have S2' : Hid (sm (fun i => hlf (pr (D f k) (U t k) i)) (q + 1) = sm (fun i => hlf (pr (D f k) (U t k) i)) q + hlf a) := by rw [ha]; exact S2.out
                  clear S1 S2 ha
                  obtain ⟨x, hx⟩ : ∃ x, x = sm (fun i => zb (pr (D f k) (U t k) i)) q := ⟨_, rfl⟩
                  obtain ⟨y, hy⟩ : ∃ y, y = sm (fun i => hlf (pr (D f k) (U t k) i)) q := ⟨_, rfl⟩
                  rw [← hx] at hc S1' e1
                  rw [← hy] at hc S2'
                  clear hx hy
                  have hyb : Hid (h2 + y + hlf a ≤ 1000) := by have := G.out.2.2; rw [G5.out] at this; have := E2.out; rw [S2'.out, E3.out] at this; exact (by omega : h2 + y + hlf a ≤ 1000)
                  clear E2 E3
                  by_cases a0 : a = 0
                  · subst a0
                    have k12 := hc.f12
                    have z1 := stM_z hc hkl
                    have z2 := hc.MZ.frozen k
                    have hq0 := eq_zero_true
                    rw [qb_zero] at hix
                    have HC := hide (stM_mz hc (y0 + x + 1))
                    have HB := hide (hb.setCell (p := ⟨c.MZ, k, none⟩) bMZ (.int .i64 (y0 + x + 1)))
                    clear hc hb
                    go_wp2
                    go_roundg (2 - (q + 1))
                    case measure => omega
                    case rel => exact ⟨q + 1, by omega, by go_num, by
                      have e : y0 + ((sm (fun i => zb (pr (D f k) (U t k) i)) (q + 1) : Nat) : Int) = y0 + x + 1 := by rw [S1'.out, zb_zero]; omega
                      rw [e, S2'.out, hlf_zero]; exact HC.out, HB.out⟩
                  · have k13 := hc.f13
                    have r1 := stM_r hc hkl
                    have r2 := hc.MR.frozen k
                    rw [qb_pos a0] at hix
                    have hq0 := eq_zero_false (h := hlf a) (by have := hlf_le a; omega)
                    have hm := fun w => run_mul w (pw (h2 + y)) (pw (hlf a)) (pw (h2 + y + hlf a)) (mul_pw (by have := hyb.out; omega))
                    have HC := hide (stM_mr hc (pw (h2 + y + hlf a)))
                    have HB := hide (hb.setCell (p := ⟨c.MR, k, none⟩) bMR (.float .f64 (pw (h2 + y + hlf a))))
                    clear hc hb
                    go_wp2
                    go_roundg (2 - (q + 1))
                    case measure => omega
                    case rel => exact ⟨q + 1, by omega, by go_num, by
                      rw [S1'.out, S2'.out, zb_pos a0, Nat.add_zero, ← Nat.add_assoc]; exact HC.out, HB.out⟩
                · have eq2 : q = 2 := by omega
                  subst eq2
                  rw [sm2 zb, sm2 hlf] at hc
                  have ez : y0 + ((zb (D f k) + zb (U t k) : Nat) : Int) = (Z1 k : Int) := by have := M4.out; omega
                  have eh : h2 + (hlf (D f k) + hlf (U t k)) = H1 k := by rw [G5.out]; omega
                  rw [ez, eh] at hc
                  have zb1 : (Z1 k : Int) ≤ 1048580 := by have := zb_le (D f k); have := zb_le (U t k); omega
                  clear ez eh e1
                  have k12 := hc.f12
                  have z1 := stM_z hc hkl
                  by_cases hz : Z1 k = 0
                  · have hzb : (((Z1 k : Nat) : Int) == 0) = true := by simp [hz]
                    have k13 := hc.f13
                    have r1 := stM_r hc hkl
                    have ha := fun w => run_add w (vsum Z1 H1 k) (pw (H1 k)) (vsum Z1 H1 (k + 1)) (vsum_add hz)
                    have HC := hide (stN_done Z1 H1 hc)
                    have HB := hide hb
                    clear hc hb hz
                    go_wp2
                    go_roundg (c.lv - (k + 1))
                    case measure => omega
                    case rel => exact ⟨k + 1, by omega, by go_num, rfl, HC.out, HB.out⟩
                  · have hzb : (((Z1 k : Nat) : Int) == 0) = false := by simp; exact hz
                    have HV := hide (vsum_succ_neg (H := H1) hz)
                    have HC := hide (stN_done Z1 H1 hc)
                    have HB := hide hb
                    clear hc hb hz
                    go_wp2
                    go_roundg (c.lv - (k + 1))
                    case measure => omega
                    case rel => exact ⟨k + 1, by omega, by go_num, float_eq HV.out.symm, HC.out, HB.out⟩
    · have ek : k = c.lv := by omega
      subst ek
      go_wp2
      exact hR.out _ _ ⟨rfl, hc, hb⟩

end Go.Proofs.Qxb6000633a
