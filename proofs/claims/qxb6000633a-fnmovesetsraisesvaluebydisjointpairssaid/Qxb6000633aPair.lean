/-
  movePair.
-/
import Derived.Test.Qxb6000633aMove
import Derived.WalkMore
import Derived.ScopeJumps
import Derived.BigQuiet
namespace Go.Proofs.Qxb6000633a
open Go.RowKit
attribute [local go_sem] run_store_float

/-- a difference that is no number: some NaN, off the tape -/
theorem run_sub_nan (x y : Nat) (h : Ieee.double.sub x y = none) : ∃ v : World → Nat, ∀ w, (binOp .sub 32 (.float .f64 x) (.float .f64 y)).run Try.prog w = .ok (.float .f64 (v w)) w.drew := by
  have h' : FloatKind.f64.format.sub x y = none := h
  refine ⟨fun w => (Question.nanBits .f64 x y).cut (w.tape w.drawn (Question.nanBits .f64 x y)), fun w => ?_⟩
  simp [binOp, Op.floatArith, h', Question.forced]

theorem Touch.drewN {p : Nat → Prop} {w w' : World} (h : Touch p w w') (m : Nat) : Touch p w (w'.drewN m) := by
  induction m with
  | zero => exact h
  | succ m ih => exact ih.drew

/-- a difference, number or not -/
theorem run_sub_any (x y : Nat) : ∃ (v : World → Nat) (k : Nat), ∀ w, (binOp .sub 32 (.float .f64 x) (.float .f64 y)).run Try.prog w = .ok (.float .f64 (v w)) (w.drewN k) := by
  rcases h : Ieee.double.sub x y with _ | r
  · obtain ⟨v, hv⟩ := run_sub_nan x y h
    exact ⟨v, 1, hv⟩
  · exact ⟨fun _ => r, 0, fun w => run_sub w x y r h⟩

/-- the climb is tallied for the division Q; U and D are its up and down rows; the lists name jobs; a move of dd is exact -/
structure Ready (c : Cfg) (s : St) (Q U D : Nat → Nat → Nat) (dd : Nat) (sa ta : Nat → Nat) : Prop where
  q : ∀ j k, j < c.n → k < c.lv → s.ch j k = qb (Q j k)
  u : ∀ j k, j < c.n → k < c.lv → s.up j k = qb (U j k)
  d : ∀ j k, j < c.n → k < c.lv → s.dn j k = qb (D j k)
  z : ∀ k, k < c.lv → s.zs k = (Zc Q k c.n : Nat)
  r : ∀ k, k < c.lv → s.rs k = pw (Hc Q k c.n)
  val : s.val = vF Q c.n c.lv
  n : c.n ≤ 1048576
  lv : c.lv ≤ 1048576
  ng : c.ng ≤ 1048576
  nl : c.nl ≤ 1048576
  few : ∀ k, k < c.lv → Hc Q k c.n + Hc U k c.n + Hc D k c.n ≤ 1000
  gj : ∀ i, i < c.ng → 0 ≤ c.GJ i ∧ c.GJ i < c.n
  lj : ∀ i, i < c.nl → 0 ≤ c.LJ i ∧ c.LJ i < c.n
  sa : ∀ j, j < c.n → Ieee.double.sub (s.al j) dd = some (sa j)
  ta : ∀ j, j < c.n → Ieee.double.add (s.al j) dd = some (ta j)

/-- a pair that the lists name -/
structure Named (c : Cfg) (f t : Nat) : Prop where
  hf : f < c.n
  ht : t < c.n
  ne : f ≠ t
  inL : ∃ i, i < c.nl ∧ c.LJ i = f
  inG : ∃ i, i < c.ng ∧ c.GJ i = t

theorem pair_last (c : Cfg) (w : World) (s : St) (Q U D : Nat → Nat → Nat) (dd : Nat) (sa ta : Nat → Nat) (f t : Nat) (h : Climb c w s) (hr : Ready c s Q U D dd sa ta) (hn : Named c f t) :
    Calls Try.prog 53 #[.pointer (some ⟨c.S, 0, none⟩), .int .i64 f, .int .i64 t, .float .f64 dd] w fun e w' => e = .returned (.tuple #[]) ∧ Touch (own c) w w' ∧
      Calls Try.prog 40 #[.pointer (some ⟨c.S, 0, none⟩)] w' fun e w'' => e = .returned (.tuple #[]) ∧ Climb c w'' (stK { s with al := upd (upd s.al f (sa f)) t (ta t), ch := upd (upd s.ch f (s.dn f)) t (s.up t) } (swp Q U D f t) c.n c.lv) ∧ Touch (own c) w' w'' := by
  refine (move_any c w s f t dd (sa f) (ta t) h hr.n hn.hf hn.ht hn.ne (hr.sa f hn.hf) (hr.ta t hn.ht)).mono ?_
  rintro e w' ⟨rfl, h1, h2⟩
  refine ⟨rfl, h2, tally_any c w' _ (swp Q U D f t) h1 ?_ hr.n hr.lv fun k hk => Hc_swp_le hn.hf hn.ht hn.ne (hr.few k hk)⟩
  intro j k hj hk
  simp only [upd, swp]
  by_cases ht : j = t
  · subst ht
    simp only [if_true]
    exact hr.u _ _ hj hk
  · simp only [if_neg ht]
    by_cases hf : j = f
    · subst hf
      simp only [if_true]
      exact hr.d _ _ hj hk
    · simp only [if_neg hf]
      exact hr.q _ _ hj hk

/-- the best pair so far -/
def Best (c : Cfg) (Q U D : Nat → Nat → Nat) (fz tz : Int) (b : Nat) : Prop :=
  NN b ∧ vF Q c.n c.lv ≤ b ∧ ((fz = -1) ∨ ∃ f t : Nat, fz = f ∧ tz = t ∧ Named c f t ∧ b = vF (swp Q U D f t) c.n c.lv ∧ vF Q c.n c.lv < b)

set_option maxHeartbeats 1000000 in
set_option maxRecDepth 100000 in
theorem movePair_any (c : Cfg) (w : World) (s : St) (Q U D : Nat → Nat → Nat) (dd : Nat) (sa ta : Nat → Nat) (h : Climb c w s) (hr : Ready c s Q U D dd sa ta) :
    Calls Try.prog 50 #[.pointer (some ⟨c.S, 0, none⟩), .float .f64 dd] w fun e w' => ∃ b : Bool, e = .returned (.bool b) ∧ (b = false → Climb c w' s) ∧
      (b = true → ∃ f t, Named c f t ∧ Climb c w' (stK { s with al := upd (upd s.al f (sa f)) t (ta t), ch := upd (upd s.ch f (s.dn f)) t (s.up t) } (swp Q U D f t) c.n c.lv) ∧ vF Q c.n c.lv < vF (swp Q U D f t) c.n c.lv) ∧ Touch (own c) w w' := by
  refine calls_of_k fun R hR => ?_
  obtain ⟨b0, hb1, hb2, hb3⟩ := mul_fac (v := vF Q c.n c.lv) (vsum_fn _ _ hr.lv)
  have k7 := h.f7
  rw [hr.val] at k7
  have m1 := fun w => run_mul w _ _ _ hb1
  have HR := hide hr
  have HC := hide h
  have HB : Hid (Best c Q U D (-1) (-1) b0) := ⟨hb2, hb3, .inl rfl⟩
  have k8 := h.f8
  clear hb1 hb2 hb3 h hr
  go_enter Try.func50, Try.ntmps50
  go_wp2
  go_step3
  go_wp2
  go_region
  clear m1 k7
  go_wp2
  go_step3
  go_wp2
  clear k8
  go_loopg [5, 6, 7, 8, 24] c.ng (fun g fv tv bv rv i wr => ∃ (q b : Nat) (fz tz tr : Int), q + g = c.ng ∧ fv = .int .i64 fz ∧ tv = .int .i64 tz ∧ bv = .float .f64 b ∧ rv = .int .i64 tr ∧ i = .int .i64 q ∧ 0 ≤ tr ∧ tr ≤ c.n ∧ -1 ≤ fz ∧ Best c Q U D fz tz b ∧ Climb c wr s ∧ Touch (own c) w wr)
  case atStart => exact ⟨0, b0, -1, -1, 0, by omega, rfl, rfl, rfl, rfl, rfl, by omega, by omega, by omega, HB.out, HC.out.drew, (Touch.refl _ _).drew⟩
  case round =>
    obtain ⟨q, b, fz, tz, tr, hq, rfl, rfl, rfl, rfl, rfl, htr0, htr1, hfz, hbest, hcl, hto⟩ := hrel
    clear HB
    have rdy := HR.out.n
    by_cases hlt : q < c.ng
    · have g1 : wr.cell? ⟨c.G, q * 2, none⟩ = some (.int .i64 (c.GJ q)) := by
        rw [hcl.G.cell (by omega)]; unfold gcell; rw [if_pos (by omega), show q * 2 / 2 = q from by omega]
      have g2 : wr.cell? ⟨c.G, q * 2 + 1, none⟩ = some (.float .f64 (c.GV q)) := by
        rw [hcl.G.cell (by omega)]; unfold gcell; rw [if_neg (by omega), show (q * 2 + 1) / 2 = q from by omega]
      have hGl := hcl.G.lt
      have ngb := HR.out.ng
      have k9 := hcl.f9
      have hSl := hcl.S.lt
      have HBE := hide hbest
      have HCL := hide hcl
      have HTO := hide hto
      obtain ⟨tn, etn⟩ := Int.eq_ofNat_of_zero_le (HR.out.gj q hlt).1
      have htn : tn < c.n := by have := (HR.out.gj q hlt).2; omega
      rw [etn] at g1
      have ET := hide etn
      clear hbest hcl hto etn
      go_wp2
      clear g1 g2 k9 hGl hSl
      obtain ⟨wo, rfl⟩ : ∃ wo : World, wo = wr := ⟨_, rfl⟩
      go_loopg [5, 6, 7, 8, 33] c.nl (fun g fv tv bv rv i wr => ∃ (p b : Nat) (fz tz tr : Int), p + g = c.nl ∧ fv = .int .i64 fz ∧ tv = .int .i64 tz ∧ bv = .float .f64 b ∧ rv = .int .i64 tr ∧ i = .int .i64 p ∧ 0 ≤ tr ∧ tr ≤ c.n ∧ -1 ≤ fz ∧ Best c Q U D fz tz b ∧ wr.cell? ⟨wo.heap.size, 0, none⟩ = some (.int .i64 (tn : Int)) ∧ wr.cell? ⟨wo.heap.size, 1, none⟩ = some (.float .f64 (c.GV q)) ∧ Climb c wr s ∧ Touch (own c) w wr)
      case atStart =>
        refine ⟨0, b, fz, tz, tr, by omega, rfl, rfl, rfl, rfl, rfl, htr0, htr1, hfz, HBE.out, by simp, by simp, HCL.out.of_block (fun b hb => Below.heap_alloc _ _ _ hb), HTO.out.grown ((Below.refl _ _).alloc (Nat.le_refl _) _)⟩
      case round =>
        as_aux_lemma =>
        clear HBE HCL HTO hfz htr0 htr1
        obtain ⟨p, b, fz, tz, tr, hp, rfl, rfl, rfl, rfl, rfl, htr0, htr1, hfz, hbest, gc1, gc2, hcl, hto⟩ := hrel
        by_cases hpl : p < c.nl
        · obtain ⟨fn, efn⟩ := Int.eq_ofNat_of_zero_le (HR.out.lj p hpl).1
          have hfn : fn < c.n := by have := (HR.out.lj p hpl).2; omega
          have l1 : wr.cell? ⟨c.LO, p * 2, none⟩ = some (.int .i64 (fn : Int)) := by
            rw [hcl.LO.cell (by omega), ← efn]; unfold gcell; rw [if_pos (by omega), show p * 2 / 2 = p from by omega]
          have l2 : wr.cell? ⟨c.LO, p * 2 + 1, none⟩ = some (.float .f64 (c.LV p)) := by
            rw [hcl.LO.cell (by omega)]; unfold gcell; rw [if_neg (by omega), show (p * 2 + 1) / 2 = p from by omega]
          have hLl := hcl.LO.lt
          have nlb := HR.out.nl
          have EF := hide efn
          have HCL := hide (hcl.of_block (w' := wr.alloc (.cells #[.int .i64 (fn : Int), .float .f64 (c.LV p)] 56)) (fun b hb => Below.heap_alloc _ _ _ hb))
          have HTO := hide (hto.grown ((Below.refl _ _).alloc (Nat.le_refl _) (.cells #[.int .i64 (fn : Int), .float .f64 (c.LV p)] 56)))
          have GC : Hid (∀ o, (wr.alloc o).cell? ⟨wo.heap.size, 0, none⟩ = some (.int .i64 (tn : Int)) ∧ (wr.alloc o).cell? ⟨wo.heap.size, 1, none⟩ = some (.float .f64 (c.GV q))) := fun o => ⟨(World.cell?_of_block (w := wr) (Below.heap_alloc wr o _ (cell_lt gc1))).trans gc1, (World.cell?_of_block (w := wr) (Below.heap_alloc wr o _ (cell_lt gc2))).trans gc2⟩
          have LC : Hid ((wr.alloc (.cells #[.int .i64 (fn : Int), .float .f64 (c.LV p)] 56)).cell? ⟨wr.heap.size, 0, none⟩ = some (.int .i64 (fn : Int)) ∧ (wr.alloc (.cells #[.int .i64 (fn : Int), .float .f64 (c.LV p)] 56)).cell? ⟨wr.heap.size, 1, none⟩ = some (.float .f64 (c.LV p))) := ⟨by simp, by simp⟩
          have HBE := hide hbest
          clear hcl hto hbest efn gc1 gc2
          go_wp2
          obtain ⟨LC1, q1⟩ := LC.out
          obtain ⟨GC1, q2⟩ := GC.out (.cells #[.int .i64 (fn : Int), .float .f64 (c.LV p)] 56)
          have LC2 := hide q1
          have GC2 := hide q2
          replace LC1 := hide LC1
          replace GC1 := hide GC1
          have q7 : (wr.alloc (.cells #[.int .i64 (fn : Int), .float .f64 (c.LV p)] 56)).cell? ⟨c.S, 7, none⟩ = some (.float .f64 (vF Q c.n c.lv)) := HR.out.val ▸ HCL.out.f7
          obtain ⟨df, hdf⟩ := sub_some (x := b) HBE.out.1 (vsum_fn (fun k => Zc Q k c.n) (fun k => Hc Q k c.n) HR.out.lv)
          have m2 := fun w => run_sub w b (vF Q c.n c.lv) df hdf
          obtain ⟨nv, nd, m1⟩ := run_sub_any (c.GV q) (c.LV p)
          clear hdf LC GC l1 l2 hLl
          generalize wr.alloc _ = w1 at *
          go_region
          clear q1 q2 q7 m1 m2
          generalize (FloatKind.f64.format.order (nv w1.drew) df == some Ordering.lt || FloatKind.f64.format.order (nv w1.drew) df == some Ordering.eq) = bb
          generalize nv w1.drew = xv
          replace HCL := hide (HCL.out.of_block (w' := w1.drewN (1 + nd)) fun _ _ => rfl)
          replace HTO := hide (HTO.out.drewN (1 + nd))
          replace LC1 : Hid ((w1.drewN (1 + nd)).cell? ⟨wr.heap.size, 0, none⟩ = some (.int .i64 (fn : Int))) := LC1.out
          replace GC1 : Hid ((w1.drewN (1 + nd)).cell? ⟨wo.heap.size, 0, none⟩ = some (.int .i64 (tn : Int))) := GC1.out
          replace GC2 : Hid ((w1.drewN (1 + nd)).cell? ⟨wo.heap.size, 1, none⟩ = some (.float .f64 (c.GV q))) := GC2.out
          clear LC2
          generalize w1.drewN (1 + nd) = w2 at HCL HTO LC1 GC1 GC2 ⊢
          clear w1 nv nd
          cases bb
          · have q1 := LC1.out
            have q2 := GC1.out
            by_cases hft : fn = tn
            · subst hft
              go_wp2
              go_roundg (c.nl - (p + 1))
              case measure => omega
              case rel => exact ⟨p + 1, b, fz, tz, tr, by omega, rfl, rfl, rfl, rfl, by go_num, htr0, htr1, hfz, HBE.out, GC1.out, GC2.out, HCL.out, HTO.out⟩
            · have hft' : ((fn : Int) == (tn : Int)) = false := by simp; omega
              have k1 := HCL.out.f1
              by_cases htl : tr + 1 > c.n
              · rcases HBE.out.2.2 with rfl | ⟨f, t, rfl, rfl, hnm, hbe, hgt⟩
                · go_wp2
                  exact hR.out _ _ ⟨false, rfl, fun _ => HCL.out, fun h => (by cases h), HTO.out⟩
                · have HP := hide (pair_last c w2 s Q U D dd sa ta f t HCL.out HR.out hnm)
                  have HT2 := hide HTO.out
                  have HNM := hide hnm
                  have HGT := hide (hbe ▸ hgt)
                  clear HCL HTO hnm hgt hbe
                  go_wp2_with fail
                  refine HP.out.mono ?_
                  rintro e w4 ⟨rfl, ht2, hta⟩
                  have HTA := hide hta
                  have HT3 := hide (HT2.out.trans ht2)
                  clear hta ht2 HP HT2
                  go_wp2_with fail
                  refine HTA.out.mono ?_
                  rintro e w3 ⟨rfl, hc3, ht3⟩
                  have HC3 := hide hc3
                  have HT4 := hide (HT3.out.trans ht3)
                  clear hc3 ht3 HT3 HTA
                  go_wp2_with fail
                  exact hR.out _ _ ⟨true, rfl, fun h => (by cases h), fun _ => ⟨f, t, HNM.out, HC3.out, HGT.out⟩, HT4.out⟩
              · have k2 := HCL.out.f2
                have k3 := HCL.out.f3
                have k4 := HCL.out.f4
                have k5 := HCL.out.f5
                have k6 := HCL.out.f6
                have r1 := HCL.out.DN.out.cell hfn
                have r2 := HCL.out.UP.out.cell htn
                have HFT := hide hft
                clear hft
                have HAM : Hid (∀ m, Calls Try.prog 54 #[.slice (some ⟨c.CH, 0, none⟩) c.n c.n, .int .i64 fn, .int .i64 tn, .slice (some ⟨c.DN + 1 + fn, 0, none⟩) c.lv c.lv, .slice (some ⟨c.UP + 1 + tn, 0, none⟩) c.lv c.lv, .slice (some ⟨c.Z, 0, none⟩) c.lv c.lv, .slice (some ⟨c.R, 0, none⟩) c.lv c.lv] (w2.drewN m)
                  fun e w' => e = .returned (.float .f64 (vF (swp Q U D fn tn) c.n c.lv)) ∧ ∃ k, w' = (w2.drewN m).drewN k) := fun m => afterMove_any c (w2.drewN m) s Q U D fn tn (HCL.out.of_block fun _ _ => rfl) HR.out.q HR.out.u HR.out.d HR.out.z HR.out.r HR.out.n HR.out.lv hfn htn HFT.out HR.out.few
                go_wp2
                go_quiet ((go_at_call 54; exact Calls.quiet_of (HAM.out _)))
                clear q1 q2 k1 k2 k3 k4 k5 k6 r1 r2 HAM
                have l1 := LC1.out
                have l2 := GC1.out
                have VN : Hid (FN (vF (swp Q U D fn tn) c.n c.lv)) := vsum_fn _ _ HR.out.lv
                by_cases hgt : FloatKind.f64.format.order (vF (swp Q U D fn tn) c.n c.lv) b = some .gt
                · have hgt' : (FloatKind.f64.format.order (vF (swp Q U D fn tn) c.n c.lv) b == some .gt) = true := by rw [hgt]; rfl
                  have HGT : Hid (b < vF (swp Q U D fn tn) c.n c.lv) := order_gt_nn VN.out HBE.out.1 hgt
                  clear hgt
                  go_wp2
                  go_region
                  go_wp2
                  go_roundg (c.nl - (p + 1))
                  case measure => omega
                  case rel => exact ⟨p + 1, _, fn, tn, tr + 1, by omega, rfl, rfl, rfl, rfl, by go_num, by omega, by omega, by omega, ⟨VN.out.nn, by have := HBE.out.2.1; have := HGT.out; omega, .inr ⟨fn, tn, rfl, rfl, ⟨hfn, htn, HFT.out, ⟨p, hpl, EF.out⟩, ⟨q, hlt, ET.out⟩⟩, rfl, by have := HBE.out.2.1; have := HGT.out; omega⟩⟩, GC1.out, GC2.out, HCL.out.of_block fun _ _ => rfl, HTO.out.drewN _⟩
                · have hgt' : (FloatKind.f64.format.order (vF (swp Q U D fn tn) c.n c.lv) b == some .gt) = false := by simpa using hgt
                  clear hgt
                  go_wp2
                  go_roundg (c.nl - (p + 1))
                  case measure => omega
                  case rel => exact ⟨p + 1, b, fz, tz, tr + 1, by omega, rfl, rfl, rfl, rfl, by go_num, by omega, by omega, hfz, HBE.out, GC1.out, GC2.out, HCL.out.of_block fun _ _ => rfl, HTO.out.drewN _⟩
          · go_wp2
            go_roundg (c.ng - (q + 1))
            case measure => omega
            case rel => exact ⟨q + 1, b, fz, tz, tr, by omega, rfl, rfl, rfl, rfl, by go_num, htr0, htr1, hfz, HBE.out, HCL.out, HTO.out⟩
        · have HBE := hide hbest
          have HCL := hide hcl
          have HTO := hide hto
          clear hbest hcl hto gc1 gc2
          go_wp2
          go_roundg (c.ng - (q + 1))
          case measure => omega
          case rel => exact ⟨q + 1, b, fz, tz, tr, by omega, rfl, rfl, rfl, rfl, by go_num, htr0, htr1, hfz, HBE.out, HCL.out, HTO.out⟩
    · rcases hbest.2.2 with rfl | ⟨f, t, rfl, rfl, hnm, hbe, hgt⟩
      · have HCL := hide hcl
        have HTO := hide hto
        clear hbest hcl hto
        go_wp2
        exact hR.out _ _ ⟨false, rfl, fun _ => HCL.out, fun h => (by cases h), HTO.out⟩
      · have HP := hide (pair_last c wr s Q U D dd sa ta f t hcl HR.out hnm)
        have HT2 := hide hto
        have HNM := hide hnm
        have HGT := hide (hbe ▸ hgt)
        clear hcl hto hnm hgt hbe
        go_wp2_with fail
        refine HP.out.mono ?_
        rintro e w4 ⟨rfl, ht2, hta⟩
        have HTA := hide hta
        have HT3 := hide (HT2.out.trans ht2)
        clear hta ht2 HP HT2
        go_wp2_with fail
        refine HTA.out.mono ?_
        rintro e w3 ⟨rfl, hc3, ht3⟩
        have HC3 := hide hc3
        have HT4 := hide (HT3.out.trans ht3)
        clear hc3 ht3 HT3 HTA
        go_wp2_with fail
        exact hR.out _ _ ⟨true, rfl, fun h => (by cases h), fun _ => ⟨f, t, HNM.out, HC3.out, HGT.out⟩, HT4.out⟩

end Go.Proofs.Qxb6000633a
