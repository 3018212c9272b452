/-
  tally.
-/
import Derived.Test.Qxb6000633aClimb
import Derived.RegionTactic
import Derived.ChangeAlike
import Derived.BigRegion
import Derived.Deep.QuietTactic
import Derived.BigQuiet
namespace Go.Proofs.Qxb6000633a
open Go.RowKit
attribute [local go_sem] run_store_float

/-- f below k, g from k on -/
def mix {α : Type} (k : Nat) (f g : Nat → α) : Nat → α := fun i => if i < k then f i else g i
theorem mix_succ {α : Type} (k : Nat) (f g : Nat → α) : upd (mix k f g) k (f k) = mix (k + 1) f g := by
  funext i
  unfold upd mix
  by_cases e : i = k
  · subst e; simp
  · rw [if_neg e]
    by_cases e' : i < k
    · rw [if_pos e', if_pos (by omega)]
    · rw [if_neg e', if_neg (by omega)]
theorem mix_zero {α : Type} (f g : Nat → α) : mix 0 f g = g := by funext i; simp [mix]

def zF (Q : Nat → Nat → Nat) (n k : Nat) : Int := (Zc Q k n : Nat)
def rF (Q : Nat → Nat → Nat) (n k : Nat) : Nat := pw (Hc Q k n)
def vF (Q : Nat → Nat → Nat) (n k : Nat) : Nat := vsum (fun k => Zc Q k n) (fun k => Hc Q k n) k

/-- tally has done k levels -/
def stK (s : St) (Q : Nat → Nat → Nat) (n k : Nat) : St := { s with zs := mix k (zF Q n) s.zs, rs := mix k (rF Q n) s.rs, val := vF Q n k }
/-- and j jobs of level k -/
def stJ (s : St) (Q : Nat → Nat → Nat) (n k j : Nat) : St := { s with zs := upd (mix k (zF Q n) s.zs) k (zF Q j k), rs := upd (mix k (rF Q n) s.rs) k (rF Q j k), val := vF Q n k }

section
variable {c : Cfg} {w : World} {s : St} {Q : Nat → Nat → Nat} {n k j : Nat}
theorem tally_start (h : Climb c w (stK s Q n k)) : Climb c ((w.setCell ⟨c.Z, k, none⟩ (.int .i64 0)).setCell ⟨c.R, k, none⟩ (.float .f64 4607182418800017408)).drew (stJ s Q n k 0) := by
  rw [pw_H0 Q k]
  exact ((h.setZ k 0).setR k _).drew
theorem tally_hit (h : Climb c w (stJ s Q n k j)) (q : Q j k = 0) : Climb c (w.setCell ⟨c.Z, k, none⟩ (.int .i64 ((Zc Q k j : Nat) + 1))) (stJ s Q n k (j + 1)) := by
  have h1 := h.setZ k (zF Q (j + 1) k)
  have e : zF Q (j + 1) k = (Zc Q k j : Nat) + 1 := by unfold zF; rw [Zc_hit q]; omega
  have e2 : rF Q (j + 1) k = rF Q j k := by unfold rF; rw [Hc_miss (by omega)]
  rw [← e]
  unfold stJ at h1 ⊢
  simp only [upd_upd] at h1
  rw [e2]
  exact h1
theorem tally_mul (h : Climb c w (stJ s Q n k j)) (q : Q j k ≠ 0) : Climb c (w.setCell ⟨c.R, k, none⟩ (.float .f64 (rF Q (j + 1) k))) (stJ s Q n k (j + 1)) := by
  have h1 := h.setR k (rF Q (j + 1) k)
  have e : zF Q (j + 1) k = zF Q j k := by unfold zF; rw [Zc_miss q]
  unfold stJ at h1 ⊢
  simp only [upd_upd] at h1
  rw [e]
  exact h1
theorem stJ_last (s : St) (Q : Nat → Nat → Nat) (n k : Nat) : stJ s Q n k n = { stK s Q n (k + 1) with val := vF Q n k } := by
  unfold stJ stK
  rw [mix_succ, mix_succ]
theorem tally_val (h : Climb c w (stJ s Q n k n)) : Climb c (w.setCell ⟨c.S, 7, none⟩ (.float .f64 (vF Q n (k + 1)))).drew (stK s Q n (k + 1)) := by
  rw [stJ_last] at h
  exact (h.setVal _).drew
theorem tally_noval (h : Climb c w (stJ s Q n k n)) (q : Zc Q k n ≠ 0) : Climb c w (stK s Q n (k + 1)) := by
  rw [stJ_last] at h
  have e : vF Q n k = vF Q n (k + 1) := (vsum_succ_neg (Z := fun k => Zc Q k n) (H := fun k => Hc Q k n) q).symm
  rw [e] at h
  exact h
theorem stJ_z (h : Climb c w (stJ s Q n k j)) (hk : k < c.lv) : w.cell? ⟨c.Z, k, none⟩ = some (.int .i64 (Zc Q k j : Nat)) := by
  have := h.Z.cell hk
  rw [this]
  show some (Value.int .i64 (upd _ k (zF Q j k) k)) = _
  rw [upd_same]; rfl
theorem stJ_r (h : Climb c w (stJ s Q n k j)) (hk : k < c.lv) : w.cell? ⟨c.R, k, none⟩ = some (.float .f64 (pw (Hc Q k j))) := by
  have := h.R.cell hk
  rw [this]
  show some (Value.float .f64 (upd _ k (rF Q j k) k)) = _
  rw [upd_same]; rfl
end

set_option maxHeartbeats 1000000 in
set_option maxRecDepth 100000 in
theorem tally_any (c : Cfg) (w : World) (s : St) (Q : Nat → Nat → Nat) (h : Climb c w s) (hq : ∀ j k, j < c.n → k < c.lv → s.ch j k = qb (Q j k)) (hn : c.n ≤ 1048576) (hlv : c.lv ≤ 1048576) (hh : ∀ k, k < c.lv → Hc Q k c.n ≤ 1000) :
    Calls Try.prog 40 #[.pointer (some ⟨c.S, 0, none⟩)] w fun e w' => e = .returned (.tuple #[]) ∧ Climb c w' (stK s Q c.n c.lv) ∧ Touch (own c) w w' := by
  refine calls_of_k fun R hR => ?_
  have HH := hide hh
  have HQ := hide hq
  have k1 := h.f7
  have k2 := h.fz 7
  have k3 := h.f5
  have H0 := hide (h.setVal 0)
  have bS := own_S c
  have bZ := own_Z c
  have bR := own_R c
  clear hh hq
  go_enter Try.func40, Try.ntmps40
  go_wp2
  clear k1 k2 k3
  go_loopg [13] c.lv (fun g i wr => ∃ k : Nat, k + g = c.lv ∧ i = .int .i64 k ∧ Climb c wr (stK s Q c.n k) ∧ Touch (own c) w wr)
  case atStart => exact ⟨0, by omega, rfl, by simpa [stK, mix_zero, vF, vsum] using H0.out, (Touch.refl _ _).setCell bS _⟩
  case round =>
    obtain ⟨k, hk, rfl, hc, hb⟩ := hrel
    clear H0
    by_cases hkl : k < c.lv
    · have k5 := hc.f5
      have k6 := hc.f6
      have z1 := hc.Z.cell hkl
      have z2 := hc.Z.frozen k
      have r1 := hc.R.cell hkl
      have r2 := hc.R.frozen k
      have hzr := row_ne hc.Z hc.R (by decide)
      have HC := hide (tally_start hc)
      have HB := hide (((hb.setCell (p := ⟨c.Z, k, none⟩) bZ (.int .i64 0)).setCell (p := ⟨c.R, k, none⟩) bR (.float .f64 4607182418800017408)).drew)
      clear hc hb
      go_wp2
      go_region
      clear k5 k6 z1 z2 r1 r2 hzr
      generalize World.drew _ = w1 at HC HB ⊢
      have k2 := HC.out.f2
      go_wp2
      clear k2
      go_loopg [33] c.n (fun g i wr => ∃ j : Nat, j + g = c.n ∧ i = .int .i64 j ∧ Climb c wr (stJ s Q c.n k j) ∧ Touch (own c) w wr)
      case atStart => exact ⟨0, by omega, rfl, HC.out, HB.out⟩
      case round =>
        obtain ⟨j, hj, rfl, hc, hb⟩ := hrel
        clear HC HB
        by_cases hjn : j < c.n
        · have k2 := hc.f2
          have c1 := hc.CH.out.cell hjn
          have d1 : wr.cell? ⟨c.CH + 1 + j, k, none⟩ = some (.float .f64 (s.ch j k)) := (hc.CH.row j hjn).cell hkl
          rw [HQ.out j k hjn hkl] at d1
          have zz := Zc_le Q k j
          have hbd : Hc Q k (j + 1) ≤ 1000 := Nat.le_trans (Hc_mono Q k _ c.n (by omega)) (HH.out k hkl)
          have HBD := hide hbd
          clear hbd
          by_cases q0 : Q j k = 0
          · have k5 := hc.f5
            have z1 := stJ_z hc hkl
            have z2 := hc.Z.frozen k
            rw [q0, qb_zero] at d1
            have ht := eq_zero_true
            have HC := hide (tally_hit hc q0)
            have HB := hide (hb.setCell (p := ⟨c.Z, k, none⟩) bZ (.int .i64 ((Zc Q k j : Nat) + 1)))
            clear hc hb q0
            go_wp2
            go_roundg (c.n - (j + 1))
            case measure => omega
            case rel => exact ⟨j + 1, by omega, by go_num, HC.out, HB.out⟩
          · have k6 := hc.f6
            have r1 := stJ_r hc hkl
            have r2 := hc.R.frozen k
            have HC := hide (tally_mul hc q0)
            have HB := hide (hb.setCell (p := ⟨c.R, k, none⟩) bR (.float .f64 (rF Q (j + 1) k)))
            by_cases q1 : Q j k = 1
            · have HS := hide (Hc_hit q1)
              rw [q1, qb_one] at d1
              have ht := eq_zero_false (h := 1) (by omega)
              have hm := fun w => run_mul w (pw (Hc Q k j)) (pw 1) (rF Q (j + 1) k) (by unfold rF; rw [HS.out]; exact mul_pw (by have := HBD.out; rw [HS.out] at this; omega))
              clear hc hb q0 q1
              go_wp2
              go_roundg (c.n - (j + 1))
              case measure => omega
              case rel => exact ⟨j + 1, by omega, by go_num, HC.out, HB.out⟩
            · have HS := hide (Hc_miss q1)
              rw [qb_two q0 q1] at d1
              have ht := eq_zero_false (h := 0) (by omega)
              have hm := fun w => run_mul w (pw (Hc Q k j)) (pw 0) (rF Q (j + 1) k) (by unfold rF; rw [HS.out]; exact mul_pw (by have := HBD.out; rw [HS.out] at this; omega))
              clear hc hb q0 q1
              go_wp2
              go_roundg (c.n - (j + 1))
              case measure => omega
              case rel => exact ⟨j + 1, by omega, by go_num, HC.out, HB.out⟩
        · have ej : j = c.n := by omega
          subst ej
          have k5 := hc.f5
          have z1 := stJ_z hc hkl
          by_cases hz : Zc Q k c.n = 0
          · have hzb : (((Zc Q k c.n : Nat) : Int) == 0) = true := by simp [hz]
            have k6 := hc.f6
            have r1 := stJ_r hc hkl
            have v1 : wr.cell? ⟨c.S, 7, none⟩ = some (.float .f64 (vF Q c.n k)) := hc.f7
            have v2 := hc.fz 7
            have ha := fun w => run_add w (vF Q c.n k) (pw (Hc Q k c.n)) (vF Q c.n (k + 1)) (vsum_add (Z := fun k => Zc Q k c.n) (H := fun k => Hc Q k c.n) hz)
            have HC := hide (tally_val hc)
            have HB := hide ((hb.setCell (p := ⟨c.S, 7, none⟩) bS (.float .f64 (vF Q c.n (k + 1)))).drew)
            clear hc hb hz
            go_wp2
            go_region
            go_wp2
            go_roundg (c.lv - (k + 1))
            case measure => omega
            case rel => exact ⟨k + 1, by omega, by go_num, HC.out, HB.out⟩
          · have hzb : (((Zc Q k c.n : Nat) : Int) == 0) = false := by simp; exact hz
            have HC := hide (tally_noval hc hz)
            have HB := hide hb
            clear hc hb hz
            go_wp2
            go_roundg (c.lv - (k + 1))
            case measure => omega
            case rel => exact ⟨k + 1, by omega, by go_num, HC.out, HB.out⟩
    · have ek : k = c.lv := by omega
      subst ek
      go_wp2
      go_end0
      exact hR.out _ _ ⟨rfl, hc, hb⟩

end Go.Proofs.Qxb6000633a
