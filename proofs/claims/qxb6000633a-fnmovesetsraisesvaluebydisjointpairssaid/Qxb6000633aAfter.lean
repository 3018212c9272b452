/-
  afterMove.
-/
import Derived.Test.Qxb6000633aPlain
import Derived.Test.Qxb6000633aIeeeC
import Derived.Deep.Draws
namespace Go.Proofs.Qxb6000633a
open Go.RowKit
attribute [local go_sem] run_store_float

theorem vsum_le (Z H : Nat → Nat) : ∀ k, k ≤ 1048576 → vsum Z H k ≤ iw k := by
  intro k
  induction k with
  | zero => intro _; exact Nat.zero_le _
  | succ k ih =>
    intro hk
    have h1 := ih (by omega)
    by_cases hz : Z k = 0
    · obtain ⟨r, h2, h3⟩ := add_step (h := H k) h1 (by omega)
      have h4 := vsum_add (Z := Z) (H := H) (k := k) hz
      rw [h4] at h2
      rw [Option.some.inj h2]
      exact h3
    · rw [vsum_succ_neg hz]
      have := nearest_mono (a := k) (b := k + 1) 0 (by omega)
      unfold iw at *
      omega
theorem vsum_fn (Z H : Nat → Nat) {k : Nat} (hk : k ≤ 1048576) : FN (vsum Z H k) := by
  have h1 := vsum_le Z H k hk
  have h2 := (iw_spec (N := k) (by omega)).1
  unfold FN at *
  omega

/-- what is left of the tallies when two jobs are taken out -/
theorem taken {Q : Nat → Nat → Nat} {n f t : Nat} (hf : f < n) (ht : t < n) (hft : f ≠ t) (k : Nat) : zb (Q f k) + zb (Q t k) ≤ Zc Q k n ∧ hlf (Q f k) + hlf (Q t k) ≤ Hc Q k n := by
  refine ⟨?_, hlf2_le_Hc Q hf ht hft k⟩
  have := cnt_ge_two (p := fun j => Q j k == 0) hf ht hft
  rw [zb_eq, zb_eq] at this
  exact this

set_option maxHeartbeats 1000000 in
set_option maxRecDepth 100000 in
theorem afterMove_any (c : Cfg) (w : World) (s : St) (Q U D : Nat → Nat → Nat) (f t : Nat) (h : Climb c w s)
    (hq : ∀ j k, j < c.n → k < c.lv → s.ch j k = qb (Q j k)) (hu : ∀ j k, j < c.n → k < c.lv → s.up j k = qb (U j k)) (hd : ∀ j k, j < c.n → k < c.lv → s.dn j k = qb (D j k))
    (hz : ∀ k, k < c.lv → s.zs k = (Zc Q k c.n : Nat)) (hr : ∀ k, k < c.lv → s.rs k = pw (Hc Q k c.n))
    (hn : c.n ≤ 1048576) (hlv : c.lv ≤ 1048576) (hf : f < c.n) (ht : t < c.n) (hft : f ≠ t) (hfew : ∀ k, k < c.lv → Hc Q k c.n + Hc U k c.n + Hc D k c.n ≤ 1000) :
    Calls Try.prog 54 #[.slice (some ⟨c.CH, 0, none⟩) c.n c.n, .int .i64 f, .int .i64 t, .slice (some ⟨c.DN + 1 + f, 0, none⟩) c.lv c.lv, .slice (some ⟨c.UP + 1 + t, 0, none⟩) c.lv c.lv, .slice (some ⟨c.Z, 0, none⟩) c.lv c.lv, .slice (some ⟨c.R, 0, none⟩) c.lv c.lv] w
      fun e w' => e = .returned (.float .f64 (vsum (fun k => Zc (swp Q U D f t) k c.n) (fun k => Hc (swp Q U D f t) k c.n) c.lv)) ∧ ∃ m, w' = w.drewN m := by
  refine calls_of_k fun R hR => ?_
  have HQ := hide hq
  have HU := hide hu
  have HD := hide hd
  have HZ := hide hz
  have HR := hide hr
  have FEW := hide hfew
  have a1 := h.CH.out.cell hf
  have b1 := h.CH.out.cell ht
  have HC := hide h
  have HFT := hide hft
  clear hq hu hd hz hr hfew h hft
  go_enter Try.func54, Try.ntmps54
  go_wp2
  go_loopg [15, 23] c.lv (fun g v i wr => ∃ k m : Nat, k + g = c.lv ∧ i = .int .i64 k ∧ v = .float .f64 (vsum (fun k => Zc (swp Q U D f t) k c.n) (fun k => Hc (swp Q U D f t) k c.n) k) ∧ wr = w.drewN m)
  case atStart => exact ⟨0, 0, by omega, rfl, rfl, rfl⟩
  case round =>
    obtain ⟨k, m, hk, rfl, rfl, rfl⟩ := hrel
    by_cases hkl : k < c.lv
    · have z1 : w.cell? ⟨c.Z, k, none⟩ = some (.int .i64 (Zc Q k c.n : Nat)) := by rw [← HZ.out k hkl]; exact HC.out.Z.cell hkl
      have r1 : w.cell? ⟨c.R, k, none⟩ = some (.float .f64 (pw (Hc Q k c.n))) := by rw [← HR.out k hkl]; exact HC.out.R.cell hkl
      have a2 : w.cell? ⟨c.CH + 1 + f, k, none⟩ = some (.float .f64 (qb (Q f k))) := by rw [← HQ.out f k hf hkl]; exact (HC.out.CH.row f hf).cell hkl
      have b2 : w.cell? ⟨c.CH + 1 + t, k, none⟩ = some (.float .f64 (qb (Q t k))) := by rw [← HQ.out t k ht hkl]; exact (HC.out.CH.row t ht).cell hkl
      have zz := Zc_le Q k c.n
      go_wp2
      go_region
      go_wp2
      go_region
      go_wp2
      clear z1 r1 a2 b2
      have TK := hide (taken (Q := Q) hf ht HFT.out k)
      have FW := hide (FEW.out k hkl)
      go_loopg [17, 18, 49] 2 (fun g z r i wr => ∃ q m' : Nat, q + g = 2 ∧ i = .int .i64 q ∧ z = .int .i64 ((Zc Q k c.n : Nat) - (sm (fun i => zb (pr (Q f k) (Q t k) i)) q : Nat) : Int) ∧ r = .float .f64 (pw (Hc Q k c.n - sm (fun i => hlf (pr (Q f k) (Q t k) i)) q)) ∧ wr = w.drewN m')
      case atStart => exact ⟨0, _, by omega, rfl, by simp [sm], by simp [sm], rfl⟩
      case round =>
        as_aux_lemma =>
        obtain ⟨q, m', hq, rfl, rfl, rfl, rfl⟩ := hrel
        have e1 := sm_le (g := fun i => zb (pr (Q f k) (Q t k) i)) (fun i => zb_le _) q
        by_cases hq2 : q < 2
        · have hix := index2 (Q f k) (Q t k) q hq2
          have E2 := hide (sm_mono (fun i => hlf (pr (Q f k) (Q t k) i)) (q := q + 1) (m := 2) (by omega))
          have E3 := hide (sm2 hlf (Q f k) (Q t k))
          obtain ⟨a, ha⟩ : ∃ a, a = pr (Q f k) (Q t k) q := ⟨_, rfl⟩
          have S1 := hide (sm_succ (fun i => zb (pr (Q f k) (Q t k) i)) q)
          have S2 := hide (sm_succ (fun i => hlf (pr (Q f k) (Q t k) i)) q)
          rw [← ha] at hix
          have S1' : Hid (sm (fun i => zb (pr (Q f k) (Q t k) i)) (q + 1) = sm (fun i => zb (pr (Q f k) (Q t k) i)) q + zb a) := by rw [ha]; exact S1.out
          have S2' : Hid (sm (fun i => hlf (pr (Q f k) (Q t k) i)) (q + 1) = sm (fun i => hlf (pr (Q f k) (Q t k) i)) q + hlf a) := by rw [ha]; exact S2.out
          clear S1 S2 ha
          generalize sm (fun i => zb (pr (Q f k) (Q t k) i)) q = x at *
          generalize sm (fun i => hlf (pr (Q f k) (Q t k) i)) q = y at *
          have hyb : Hid (y + hlf a ≤ Hc Q k c.n) := by have := TK.out.2; have := E2.out; rw [S2'.out, E3.out] at this; exact (by omega : y + hlf a ≤ Hc Q k c.n)
          clear E2 E3
          by_cases a0 : a = 0
          · subst a0
            have hq0 := eq_zero_true
            rw [qb_zero] at hix
            go_wp2
            go_roundg (2 - (q + 1))
            case measure => omega
            case rel => exact ⟨q + 1, m', by omega, by go_num, int_eq (by rw [S1'.out, zb_zero]; omega), float_eq (by rw [S2'.out, hlf_zero]; rfl), rfl⟩
          · rw [qb_pos a0] at hix
            have hq0 := eq_zero_false (h := hlf a) (by have := hlf_le a; omega)
            have hm := fun w => run_quo w (pw (Hc Q k c.n - y)) (pw (hlf a)) (pw (Hc Q k c.n - y - hlf a)) (div_pw (by have := hyb.out; omega) (by have := FW.out; omega))
            go_wp2
            go_roundg (2 - (q + 1))
            case measure => omega
            case rel => exact ⟨q + 1, m', by omega, by go_num, int_eq (by rw [S1'.out, zb_pos a0]; omega), float_eq (by rw [S2'.out, ← Nat.sub_sub]), rfl⟩
        · have eq2 : q = 2 := by omega
          subst eq2
          rw [sm2 zb, sm2 hlf]
          clear e1
          have ZS := hide (Zc_swp (Q := Q) (U := U) (D := D) hf ht HFT.out k)
          have HS := hide (Hc_swp (Q := Q) (U := U) (D := D) hf ht HFT.out k)
          have FW2 := hide (Hc_swp_le (U := U) (D := D) hf ht HFT.out (FEW.out k hkl))
          obtain ⟨h2, hh2⟩ : ∃ h, h = Hc Q k c.n - (hlf (Q f k) + hlf (Q t k)) := ⟨_, rfl⟩
          have HB : Hid (Hc (swp Q U D f t) k c.n = h2 + hlf (D f k) + hlf (U t k)) := by have := TK.out.2; have := HS.out; exact (by omega : Hc (swp Q U D f t) k c.n = h2 + hlf (D f k) + hlf (U t k))
          rw [← hh2]
          clear hh2
          by_cases hz : Zc Q k c.n = zb (Q f k) + zb (Q t k)
          · have hzb : (((Zc Q k c.n : Nat) : Int) - ((zb (Q f k) + zb (Q t k) : Nat) : Int) == 0) = true := by simp; omega
            have ZE : Hid (Zc (swp Q U D f t) k c.n = zb (D f k) + zb (U t k)) := by have := ZS.out; exact (by omega : Zc (swp Q U D f t) k c.n = zb (D f k) + zb (U t k))
            have d2 : w.cell? ⟨c.DN + 1 + f, k, none⟩ = some (.float .f64 (qb (D f k))) := by rw [← HD.out f k hf hkl]; exact (HC.out.DN.row f hf).cell hkl
            have u2 : w.cell? ⟨c.UP + 1 + t, k, none⟩ = some (.float .f64 (qb (U t k))) := by rw [← HU.out t k ht hkl]; exact (HC.out.UP.row t ht).cell hkl
            clear hz
            have VF := hide (vsum_fn (fun k => Zc (swp Q U D f t) k c.n) (fun k => Hc (swp Q U D f t) k c.n) (k := k) (by omega))
            by_cases c0 : D f k = 0 ∨ U t k = 0
            · have HV : Hid (vsum (fun k => Zc (swp Q U D f t) k c.n) (fun k => Hc (swp Q U D f t) k c.n) (k + 1) = vsum (fun k => Zc (swp Q U D f t) k c.n) (fun k => Hc (swp Q U D f t) k c.n) k) := vsum_succ_neg (by
                show Zc (swp Q U D f t) k c.n ≠ 0
                rw [ZE.out]
                rcases c0 with c0 | c0 <;> rw [c0, zb_zero] <;> omega)
              obtain ⟨y, m1, m2⟩ : ∃ y, (∀ w, (binOp .mul 32 (.float .f64 (pw h2)) (.float .f64 (qb (D f k)))).run Try.prog w = .ok (.float .f64 y) w) ∧ (∀ w, (binOp .mul 32 (.float .f64 y) (.float .f64 (qb (U t k)))).run Try.prog w = .ok (.float .f64 0) w) := by
                have hb2 := FW2.out
                rw [HB.out] at hb2
                by_cases d0 : D f k = 0
                · rw [d0, qb_zero]
                  refine ⟨0, fun w => run_mul w _ _ _ (mul_pw_zero (by omega)), fun w => run_mul w _ _ _ ?_⟩
                  by_cases u0 : U t k = 0
                  · rw [u0, qb_zero]; exact mul_zero_zero
                  · rw [qb_pos u0]; exact mul_zero_pw (by have := hlf_le (U t k); omega)
                · have u0 : U t k = 0 := by omega
                  rw [u0, qb_zero, qb_pos d0]
                  exact ⟨pw (h2 + hlf (D f k)), fun w => run_mul w _ _ _ (mul_pw (by omega)), fun w => run_mul w _ _ _ (mul_pw_zero (by omega))⟩
              have m3 := fun w => run_add w _ 0 _ (add_zero VF.out)
              clear c0
              go_wp2
              go_region
              go_wp2
              go_roundg (c.lv - (k + 1))
              case measure => omega
              case rel => exact ⟨k + 1, _, by omega, by go_num, float_eq HV.out.symm, rfl⟩
            · have d0 : D f k ≠ 0 := fun h => c0 (.inl h)
              have u0 : U t k ≠ 0 := fun h => c0 (.inr h)
              rw [qb_pos d0] at d2
              rw [qb_pos u0] at u2
              have Z0 : Zc (swp Q U D f t) k c.n = 0 := by rw [ZE.out, zb_pos d0, zb_pos u0]
              have m1 := fun w => run_mul w (pw h2) (pw (hlf (D f k))) _ (mul_pw (by have := FW2.out; rw [HB.out] at this; omega))
              have m2 := fun w => run_mul w (pw (h2 + hlf (D f k))) (pw (hlf (U t k))) (pw (Hc (swp Q U D f t) k c.n)) (by rw [HB.out]; exact mul_pw (by have := FW2.out; rw [HB.out] at this; omega))
              have m3 := fun w => run_add w _ _ _ (vsum_add (Z := fun k => Zc (swp Q U D f t) k c.n) (H := fun k => Hc (swp Q U D f t) k c.n) (k := k) Z0)
              clear c0 d0 u0 Z0
              go_wp2
              go_region
              go_wp2
              go_roundg (c.lv - (k + 1))
              case measure => omega
              case rel => exact ⟨k + 1, _, by omega, by go_num, rfl, rfl⟩
          · have hzb : (((Zc Q k c.n : Nat) : Int) - ((zb (Q f k) + zb (Q t k) : Nat) : Int) == 0) = false := by simp; omega
            have HV : Hid (vsum (fun k => Zc (swp Q U D f t) k c.n) (fun k => Hc (swp Q U D f t) k c.n) (k + 1) = vsum (fun k => Zc (swp Q U D f t) k c.n) (fun k => Hc (swp Q U D f t) k c.n) k) := vsum_succ_neg (by show Zc (swp Q U D f t) k c.n ≠ 0; have := ZS.out; have := TK.out.1; omega)
            clear hz
            go_wp2
            go_roundg (c.lv - (k + 1))
            case measure => omega
            case rel => exact ⟨k + 1, m', by omega, by go_num, float_eq HV.out.symm, rfl⟩
    · have ek : k = c.lv := by omega
      subst ek
      go_wp2
      exact hR.out _ _ ⟨rfl, m, rfl⟩

end Go.Proofs.Qxb6000633a
