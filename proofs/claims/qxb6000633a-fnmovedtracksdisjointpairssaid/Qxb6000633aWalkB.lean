/-
  FnMovedTracksDisjointPairs: the walk.
-/
import Derived.Test.Qxb6000633aPlainB
import Derived.Test.Qxb6000633aBytesB
namespace Go.Proofs.Qxb6000633a
open Go.RowKit
attribute [local go_sem] run_store_float

theorem stN_mr (s : St) (Z1 H1 : Nat → Nat) {lv k : Nat} (hk : k < lv) : (stN s Z1 H1 lv).mr k = pw (H1 k) := by
  unfold stN mix
  exact if_pos hk

/-- a climb without gains and losses -/
def mkC (B S AL CH UP DN Z R G LO U MZ MR n lv : Nat) : Cfg := ⟨B, S, AL, CH, UP, DN, Z, R, G, LO, U, MZ, MR, n, lv, 0, 0, fun _ => 0, fun _ => 0, fun _ => 0, fun _ => 0⟩

/-- between two calls of moved: the tallies and the table beside them are those of the division S -/
structure Mid2 (c : Cfg) (w4 w : World) (T n lv : Nat) (ch up dn S : Nat → Nat → Nat) : Prop where
  st : ∃ s, Climb c w s ∧ s.ch = ch ∧ s.up = up ∧ s.dn = dn ∧ (∀ k, k < lv → s.mz k = (Zc S k n : Nat)) ∧ (∀ k, k < lv → s.mr k = pw (Hc S k n))
  aft : ∃ V, Aft w T n lv V (fun j k => qb (S j k)) ∧ ∀ j, j < n → ¬ own c (V j)
  bel : Below w4.heap.size w4 w

set_option maxHeartbeats 2000000 in
set_option maxRecDepth 100000 in
theorem walkB (w : World) (ao bo co fo to : Option Addr) (n n2 n3 nf nt cap1 cap2 cap3 fc tc : Nat) (A1 A2 A3 : Nat → Option Addr) (L1 L2 L3 C1 C2 C3 : Nat → Nat) (M U D : Nat → Nat → Int) (f t : Nat → Int)
    (hM : Codes w ao n A1 L1 C1 M) (hU : Codes w bo n2 A2 L2 C2 U) (hD : Codes w co n3 A3 L3 C3 D) (hf : Rd w fo nf (fun i => .int .i64 (f i))) (ht : Rd w to nt (fun i => .int .i64 (t i))) (hnf : nf ≤ 9223372036854775807) (hnt : nt ≤ 9223372036854775807) :
    Calls Try.prog 4 #[.slice ao n cap1, .slice bo n2 cap2, .slice co n3 cap3, .slice fo nf fc, .slice to nt tc] w fun e w' => e = .returned (.bool true) ∧ Below w.heap.size w w' := by
  refine calls_of_k fun R hR => ?_
  go_enter Try.func4, Try.ntmps4
  go_wp2_with fail
  refine (bytes23_any w ao bo co n n2 n3 cap1 cap2 cap3 A1 A2 A3 L1 L2 L3 C1 C2 C3 M U D hM hU hD fo to nf nt fc tc hnf hnt).mono ?_
  rintro e w' ⟨b, rfl, hb, rfl⟩
  cases b
  · go_wp2_with fail
    exact hR.out _ _ ⟨rfl, Below.refl _ _⟩
  obtain ⟨⟨s1, s2⟩, ⟨s3, s4⟩, ⟨s5, s6⟩, s7, s8⟩ := hb rfl
  have S := hide (And.intro s2 (And.intro s4 s6))
  clear hb s2 s4 s6 hnf hnt
  have q7 : decide (1048576 < (nf : Int)) = false := by simp; omega
  have q8 : decide (1048576 < (nt : Int)) = false := by simp; omega
  go_wp2_with fail
  refine (codeBytes_any _ ao n cap1 A1 L1 C1 M hM).mono ?_
  rintro e w' ⟨r1, rfl, g1, g2, rfl⟩
  go_wp2_with fail
  refine (codeBytes_any _ bo n2 cap2 A2 L2 C2 U hU).mono ?_
  rintro e w' ⟨r2, rfl, g3, g4, rfl⟩
  go_wp2_with fail
  refine (codeBytes_any _ co n3 cap3 A3 L3 C3 D hD).mono ?_
  rintro e w' ⟨r3, rfl, g5, g6, rfl⟩
  by_cases hbig : 1048576 < r1 + r2 + r3 + 8 * (nf : Int) + 8 * (nt : Int)
  · go_wp2_with fail
    exact hR.out _ _ ⟨rfl, Below.refl _ _⟩
  go_wp2_with fail
  clear hbig g1 g2 g3 g4 g5 g6
  refine (scriptPremise_any _ ao bo co n n2 n3 cap1 cap2 cap3 A1 A2 A3 L1 L2 L3 C1 C2 C3 M U D hM hU hD s1 S.out.1 fo to nf nt fc tc f t hf ht s7 s8).mono ?_
  rintro e w0 ⟨b, rfl, hb, b0⟩
  have hM0 := hM.stays b0
  have hU0 := hU.stays b0
  have hD0 := hD.stays b0
  have hf0 := hf.stays b0
  have ht0 := ht.stays b0
  have B0 := hide b0
  clear b0 hM hU hD hf ht
  cases b
  · go_wp2_with fail
    exact hR.out _ _ ⟨rfl, B0.out⟩
  obtain ⟨e2, e3, e4, hm, hrg, hsc, hsh⟩ := hb rfl
  clear hb
  have e2' := e2.symm
  have e3' := e3.symm
  have e4' := e4.symm
  subst e2' e3' e4'
  clear e2 e3 e4
  obtain ⟨lv, hlv⟩ : ∃ lv, lv = (if n = 0 then 0 else L1 0) := ⟨_, rfl⟩
  rw [← hlv] at hsh
  have hl : lv ≤ 1048576 := by
    rw [hlv]
    split
    · omega
    · exact S.out.1 0 (by omega)
  have HL := hide hlv
  have HSH := hide hsh
  have HRG := hide hrg
  have HSC := hide hsc
  clear hsh hlv s3 s5 s8 hrg hsc q7 q8
  go_wp2_with fail
  refine (cloneCodes_any _ ao n cap1 A1 L1 C1 M hM0 s1 S.out.1).mono ?_
  rintro e w1 ⟨ao1, cap1', A1', C1', rfl, hM1, b1⟩
  have hU1 := hU0.stays b1
  have hD1 := hD0.stays b1
  have hf1 := hf0.stays b1
  have ht1 := ht0.stays b1
  have B1 := hide b1
  clear hM0 hU0 hD0 hf0 ht0 b1
  go_wp2_with fail
  refine (cloneCodes_any _ bo n cap2 A2 L2 C2 U hU1 s1 S.out.2.1).mono ?_
  rintro e w2 ⟨bo1, cap2', A2', C2', rfl, hU2, b2⟩
  have hM2 := hM1.stays b2
  have hD2 := hD1.stays b2
  have hf2 := hf1.stays b2
  have ht2 := ht1.stays b2
  have B2 := hide b2
  clear hM1 hU1 hD1 hf1 ht1 b2
  go_wp2_with fail
  refine (cloneCodes_any _ co n cap3 A3 L3 C3 D hD2 s1 S.out.2.2).mono ?_
  rintro e w3 ⟨co1, cap3', A3', C3', rfl, hD3, b3⟩
  have hM3 := hM2.stays b3
  have hU3 := hU2.stays b3
  have hf3 := hf2.stays b3
  have ht3 := ht2.stays b3
  have B3 := hide b3
  clear hM2 hU2 hD2 hf2 ht2 b3
  go_wp2_with fail
  refine (cloneInts_any _ fo nf fc f hf3 s7).mono ?_
  rintro e w31 ⟨fo1, fc', rfl, hf31, b31, _⟩
  have hM31 := hM3.stays b31
  have hU31 := hU3.stays b31
  have hD31 := hD3.stays b31
  have ht31 := ht3.stays b31
  have B31 := hide b31
  clear hM3 hU3 hD3 hf3 ht3 b31
  go_wp2_with fail
  refine (cloneInts_any _ to nf tc t ht31 s7).mono ?_
  rintro e w32 ⟨to1, tc', rfl, ht32, b32, _⟩
  have hM32 := hM31.stays b32
  have hU32 := hU31.stays b32
  have hD32 := hD31.stays b32
  have hf32 := hf31.stays b32
  have B32 : Hid (Below w'.heap.size w' w32 ∧ w'.heap.size ≤ w32.heap.size) := by
    have q0 := B0.out.size
    have q1 := B1.out.size
    have q2 := B2.out.size
    have q3 := B3.out.size
    have q4 := B31.out.size
    have q5 := b32.size
    exact ⟨below_up (below_up (below_up (below_up (below_up B0.out B1.out (by omega)) B2.out (by omega)) B3.out (by omega)) B31.out (by omega)) b32 (by omega), by omega⟩
  clear hM31 hU31 hD31 hf31 ht31 b32 B0 B1 B2 B3 B31
  go_wp2_with fail
  refine (levels_any _ ao1 n cap1' A1' L1 C1' M hM32).mono ?_
  rintro e w4 ⟨rfl, rfl⟩
  rw [← HL.out]
  go_wp2_with fail
  refine (floats_any _ ao1 n cap1' lv A1' L1 C1' M hM32 HSH.out.e1 s1 hl).mono ?_
  rintro e w5 ⟨rfl, t1, b5, z5⟩
  have hM5 := hM32.stays b5
  have hU5 := hU32.stays b5
  have hD5 := hD32.stays b5
  have P5 := hide (And.intro t1 (And.intro b5 z5))
  clear t1 b5 z5 hM32 hU32 hD32
  go_wp2_with fail
  refine (floats_any _ bo1 n cap2' lv A2' L2 C2' U hU5 HSH.out.e2 s1 hl).mono ?_
  rintro e w6 ⟨rfl, t2, b6, z6⟩
  have hM6 := hM5.stays b6
  have hD6 := hD5.stays b6
  have P6 := hide (And.intro t2 (And.intro b6 z6))
  clear t2 b6 z6 hM5 hU5 hD5
  go_wp2_with fail
  refine (floats_any _ co1 n cap3' lv A3' L3 C3' D hD6 HSH.out.e3 s1 hl).mono ?_
  rintro e w7 ⟨rfl, t3, b7, z7⟩
  have hM7 := hM6.stays b7
  have P7 := hide (And.intro t3 (And.intro b7 z7))
  clear t3 b7 z7 hM6 hD6
  go_wp2_with fail
  refine (floats_any _ ao1 n cap1' lv A1' L1 C1' M hM7 HSH.out.e1 s1 hl).mono ?_
  rintro e w71 ⟨rfl, t4, b71, z71⟩
  have P71 := hide (And.intro t4 (And.intro b71 z71))
  clear t4 b71 z71 hM7
  have hmk := run_make_row' (P := Try.prog) 30 32 (.float .f64 0) 8 Try.underlying30 Try.info32 rfl .i64 .i64 n (by omega) (by omega)
  go_wp2_with fail
  clear hmk
  have HN : Hid (NewIn (w71.alloc (.cells (madeCells #[.float .f64 0] n) 32)) w4.heap.size n lv w71.heap.size w4.heap.size w5.heap.size w6.heap.size (fun _ => 0) (fun j k => cf (M j k)) (fun j k => cf (U j k)) (fun j k => cf (D j k))) := by
    obtain ⟨t1, b5, z5⟩ := P5.out
    obtain ⟨t2, b6, z6⟩ := P6.out
    obtain ⟨t3, b7, z7⟩ := P7.out
    obtain ⟨t4, b71, z71⟩ := P71.out
    refine ⟨by simp; omega, by omega, Nat.le_refl _, World.rowIs_made w71 _ n 32, ?_, ?_, ?_, fun j hj => ⟨by omega, by omega, by omega⟩, by omega, by omega⟩
    · exact (t1.of_block (fun b hb => (b71.block b (by omega)).trans ((b7.block b (by omega)).trans (b6.block b (by omega))))).of_block (fun b hb => Below.heap_alloc _ _ _ hb)
    · exact (t2.of_block (fun b hb => (b71.block b (by omega)).trans (b7.block b (by omega)))).of_block (fun b hb => Below.heap_alloc _ _ _ hb)
    · exact (t3.of_block (fun b hb => b71.block b (by omega))).of_block (fun b hb => Below.heap_alloc _ _ _ hb)
  have B8 : Hid (Below w4.heap.size w4 (w71.alloc (.cells (madeCells #[.float .f64 0] n) 32)) ∧ w4.heap.size ≤ (w71.alloc (.cells (madeCells #[.float .f64 0] n) 32)).heap.size ∧ FTab (w71.alloc (.cells (madeCells #[.float .f64 0] n) 32)) w7.heap.size n lv (fun j k => cf (M j k)) ∧ (w71.alloc (.cells (madeCells #[.float .f64 0] n) 32)).heap.size = w71.heap.size + 1) := by
    obtain ⟨_, b5, z5⟩ := P5.out
    obtain ⟨_, b6, z6⟩ := P6.out
    obtain ⟨_, b7, z7⟩ := P7.out
    obtain ⟨t4, b71, z71⟩ := P71.out
    exact ⟨(below_up (below_up (below_up b5 b6 (by omega)) b7 (by omega)) b71 (by omega)).alloc (by omega) _, by simp; omega, t4.of_block (fun b hb => Below.heap_alloc _ _ _ hb), by simp⟩
  have NUM : Hid (w4.heap.size + 1 + n = w5.heap.size ∧ w5.heap.size + 1 + n = w6.heap.size ∧ w6.heap.size + 1 + n = w7.heap.size ∧ w7.heap.size + 1 + n = w71.heap.size) := ⟨P5.out.2.2.symm, P6.out.2.2.symm, P7.out.2.2.symm, P71.out.2.2.symm⟩
  clear P5 P6 P7 P71
  generalize w71.alloc (.cells (madeCells #[.float .f64 0] n) 32) = w8 at HN B8 ⊢
  refine (newClimb_any w8 w4.heap.size n lv w71.heap.size w4.heap.size w5.heap.size w6.heap.size _ _ _ _ HN.out none none none none 0 0 0 0 0 0 (fun _ => 0) (fun _ => 0) (fun _ => 0) (fun _ => 0) (fun i hi => by omega) (fun i hi => by omega) (fun i hi => by omega) (fun i hi => by omega) s1 hl (by omega) (by omega)).mono ?_
  rintro e w9 ⟨cS, cZ, cR, cG, cLO, cU, cMZ, cMR, rfl, hc, b9, hown⟩
  have hc' : Climb (mkC w4.heap.size cS w71.heap.size w4.heap.size w5.heap.size w6.heap.size cZ cR cG cLO cU cMZ cMR n lv) w9 _ := hc
  have OWN : Hid (∀ k, own (mkC w4.heap.size cS w71.heap.size w4.heap.size w5.heap.size w6.heap.size cZ cR cG cLO cU cMZ cMR n lv) k → k = w71.heap.size ∨ (w4.heap.size < k ∧ k ≤ w4.heap.size + n) ∨ w71.heap.size + 1 ≤ k) := by
    intro k hk
    have := hown k hk
    rw [B8.out.2.2.2] at this
    exact this
  have A9 : Hid (Aft w9 w7.heap.size n lv (fun j => w7.heap.size + 1 + j) (fun j k => cf (M j k)) ∧ Below w4.heap.size w4 w9 ∧ w4.heap.size ≤ w9.heap.size) := ⟨(B8.out.2.2.1.of_block b9.block).aft, below_up B8.out.1 b9 B8.out.2.1, by have := B8.out.2.1; have := b9.size; omega⟩
  clear hc hown b9 HN B8
  have NO : Hid (¬ own (mkC w4.heap.size cS w71.heap.size w4.heap.size w5.heap.size w6.heap.size cZ cR cG cLO cU cMZ cMR n lv) w7.heap.size ∧ ∀ j, j < n → ¬ own (mkC w4.heap.size cS w71.heap.size w4.heap.size w5.heap.size w6.heap.size cZ cR cG cLO cU cMZ cMR n lv) (w7.heap.size + 1 + j)) := by
    obtain ⟨n1, n2, n3, n4⟩ := NUM.out
    exact ⟨fun h => by have := OWN.out _ h; omega, fun j hj h => by have := OWN.out _ h; omega⟩
  go_wp2_with fail
  have FEW : Hid (∀ k, k < lv → Hc (fun j k => cls (M j k)) k n + Hc (fun j k => cls (U j k)) k n + Hc (fun j k => cls (D j k)) k n ≤ 1000) := by
    intro k hk
    rw [hv_Hc, hv_Hc, hv_Hc]
    exact HSH.out.few k hk
  refine (zzTally_any _ w9 _ (fun j k => cls (M j k)) hc' (fun j k _ _ => cf_cls _) s1 hl (fun k hk => by have := FEW.out k hk; show Hc _ k n ≤ 1000; omega)).mono ?_
  rintro e w10 ⟨rfl, hc10, b10⟩
  have A10 : Hid (Aft w10 w7.heap.size n lv (fun j => w7.heap.size + 1 + j) (fun j k => cf (M j k)) ∧ Below w4.heap.size w4 w10 ∧ w4.heap.size ≤ w10.heap.size) := ⟨A9.out.1.touch b10 NO.out.1 NO.out.2, A9.out.2.1.trans (b10.below hc'.own_lo A9.out.2.2), by have := A9.out.2.2; have := b10.size; omega⟩
  clear A9 b10 hc'
  go_wp2_with fail
  refine (setMoved_any _ w10 _ hc10).mono ?_
  rintro e w11 ⟨rfl, hc11, b11⟩
  have A11 : Hid (Aft w11 w7.heap.size n lv (fun j => w7.heap.size + 1 + j) (fun j k => cf (M j k)) ∧ Below w4.heap.size w4 w11 ∧ w4.heap.size ≤ w11.heap.size) := ⟨A10.out.1.touch b11 NO.out.1 NO.out.2, A10.out.2.1.trans (b11.below hc10.own_lo A10.out.2.2), by have := A10.out.2.2; have := b11.size; omega⟩
  have HMID : Hid (Mid2 (mkC w4.heap.size cS w71.heap.size w4.heap.size w5.heap.size w6.heap.size cZ cR cG cLO cU cMZ cMR n lv) w4 w11 w7.heap.size n lv (fun j k => cf (M j k)) (fun j k => cf (U j k)) (fun j k => cf (D j k)) (Sq (fun j k => cls (M j k)) (fun j k => cls (U j k)) (fun j k => cls (D j k)) (fun i => (f i).toNat) (fun i => (t i).toNat) 0)) := by
    refine ⟨⟨_, hc11, rfl, rfl, rfl, fun k hk => stK_zs _ n lv k hk, fun k hk => stK_rs _ n lv k hk⟩, ⟨_, ?_, NO.out.2⟩, A11.out.2.1⟩
    have e : (fun j k => cf (M j k)) = fun j k => qb (Sq (fun j k => cls (M j k)) (fun j k => cls (U j k)) (fun j k => cls (D j k)) (fun i => (f i).toNat) (fun i => (t i).toNat) 0 j k) := by funext j k; exact cf_cls _
    rw [← e]
    exact A11.out.1
  clear A10 A11 b11 hc10 hc11
  go_wp2_with fail
  go_loopg [18] nf (fun g i wr => ∃ q : Nat, q + g = nf ∧ i = .int .i64 q ∧ Mid2 (mkC w4.heap.size cS w71.heap.size w4.heap.size w5.heap.size w6.heap.size cZ cR cG cLO cU cMZ cMR n lv) w4 wr w7.heap.size n lv (fun j k => cf (M j k)) (fun j k => cf (U j k)) (fun j k => cf (D j k)) (Sq (fun j k => cls (M j k)) (fun j k => cls (U j k)) (fun j k => cls (D j k)) (fun i => (f i).toNat) (fun i => (t i).toNat) q))
  case atStart => exact ⟨0, by omega, rfl, HMID.out⟩
  case round =>
    obtain ⟨q, hq, rfl, hmid⟩ := hrel
    clear HMID
    by_cases hlt : q < nf
    · as_aux_lemma =>
      obtain ⟨⟨s, hcl, es1, es2, es3, hz, hr⟩, ⟨V, haft, hV⟩, hbel⟩ := hmid
      obtain ⟨g1, g2, g3, g4⟩ := HRG.out q hlt
      have hsz := hcl.own_hi
      obtain ⟨b1, o1, rfl, c1⟩ := hf32 q hlt
      obtain ⟨b2, o2, rfl, c2⟩ := ht32 q hlt
      obtain ⟨fn, efn⟩ : ∃ fn : Nat, fn = (f q).toNat := ⟨_, rfl⟩
      obtain ⟨tn, etn⟩ : ∃ tn : Nat, tn = (t q).toNat := ⟨_, rfl⟩
      have ef : f q = (fn : Int) := by omega
      have et : t q = (tn : Int) := by omega
      have c1' : wr.cell? ⟨b1, o1 + q, none⟩ = some (.int .i64 (fn : Int)) := by rw [← ef]; exact (hbel.cell (cell_lt c1)).trans c1
      have c2' : wr.cell? ⟨b2, o2 + q, none⟩ = some (.int .i64 (tn : Int)) := by rw [← et]; exact (hbel.cell (cell_lt c2)).trans c2
      have hfn : fn < n := by omega
      have htn : tn < n := by omega
      have hne : fn ≠ tn := by rw [efn, etn]; exact HSC.out.ne q hlt
      obtain ⟨SS, hSS⟩ : ∃ SS, SS = Sq (fun j k => cls (M j k)) (fun j k => cls (U j k)) (fun j k => cls (D j k)) (fun i => (f i).toNat) (fun i => (t i).toNat) q := ⟨_, rfl⟩
      have mx : Mixed (fun j k => cls (M j k)) (fun j k => cls (U j k)) (fun j k => cls (D j k)) SS := by rw [hSS]; exact Sq_mixed _ _ _ _ _ _
      have u1 : ∀ k, SS fn k = cls (M fn k) := by rw [hSS, efn]; exact Sq_untouched (HSC.out.sf q hlt)
      have u2 : ∀ k, SS tn k = cls (M tn k) := by rw [hSS, etn]; exact Sq_untouched (HSC.out.st q hlt)
      have NXT : Hid (Sq (fun j k => cls (M j k)) (fun j k => cls (U j k)) (fun j k => cls (D j k)) (fun i => (f i).toNat) (fun i => (t i).toNat) (q + 1) = swp SS (fun j k => cls (U j k)) (fun j k => cls (D j k)) fn tn) := by
        rw [hSS, efn, etn]; rfl
      rw [← hSS] at haft hz hr
      have FEWN : Hid (∀ k, k < lv → Hc (swp SS (fun j k => cls (U j k)) (fun j k => cls (D j k)) fn tn) k n ≤ 1000) := by
        intro k hk
        have h1 := (mx.swp fn tn).few k n
        have h2 := FEW.out k hk
        exact Nat.le_trans h1 h2
      have HMV : Hid (Calls Try.prog 18 #[.pointer (some ⟨cS, 0, none⟩), .int .i64 fn, .int .i64 tn] wr fun e w' => e = .returned (.float .f64 (vsum (fun k => Zc (swp SS (fun j k => cls (U j k)) (fun j k => cls (D j k)) fn tn) k n) (fun k => Hc (swp SS (fun j k => cls (U j k)) (fun j k => cls (D j k)) fn tn) k n) lv)) ∧ Climb (mkC w4.heap.size cS w71.heap.size w4.heap.size w5.heap.size w6.heap.size cZ cR cG cLO cU cMZ cMR n lv) w' (stN s (fun k => Zc (swp SS (fun j k => cls (U j k)) (fun j k => cls (D j k)) fn tn) k n) (fun k => Hc (swp SS (fun j k => cls (U j k)) (fun j k => cls (D j k)) fn tn) k n) lv) ∧ Touch (own (mkC w4.heap.size cS w71.heap.size w4.heap.size w5.heap.size w6.heap.size cZ cR cG cLO cU cMZ cMR n lv)) wr w') := hide (zzMoved_any (mkC w4.heap.size cS w71.heap.size w4.heap.size w5.heap.size w6.heap.size cZ cR cG cLO cU cMZ cMR n lv) wr s (fun j k => cls (M j k)) (fun j k => cls (U j k)) (fun j k => cls (D j k)) fn tn _ _ hcl (fun j k _ _ => by rw [es1]; exact cf_cls _) (fun j k _ _ => by rw [es2]; exact cf_cls _) (fun j k _ _ => by rw [es3]; exact cf_cls _) s1 hl hfn htn (room_mid hfn htn hne s1 mx u1 u2 FEW.out hz hr))
      have LO := hide hcl.own_lo
      have HAF := hide (And.intro haft (And.intro hV hbel))
      have ES := hide (And.intro es1 (And.intro es2 es3))
      clear hz hr mx u1 u2 hSS ef et efn etn hne g1 g2 g3 g4 c1 c2 es1 es2 es3 haft hV hbel hcl hsz
      go_wp2_with fail
      refine HMV.out.mono ?_
      rintro e wA ⟨rfl, hcA, tA⟩
      clear HMV c1' c2'
      have AA : Hid (Aft wA w7.heap.size n lv V (fun j k => qb (SS j k)) ∧ Below w4.heap.size w4 wA ∧ w4.heap.size ≤ wA.heap.size) := ⟨HAF.out.1.touch tA NO.out.1 HAF.out.2.1, HAF.out.2.2.trans (tA.below LO.out HAF.out.2.2.size), by have := HAF.out.2.2.size; have := tA.size; omega⟩
      have VA := hide HAF.out.2.1
      have OA := hide hcA.own_hi
      have HCA := hide hcA
      have d1 : wA.cell? ⟨w6.heap.size, fn, none⟩ = some (.slice (some ⟨w6.heap.size + 1 + fn, 0, none⟩) lv lv) := hcA.DN.out.cell hfn
      have RD1 : Hid (Rd wA (some ⟨w6.heap.size + 1 + fn, 0, none⟩) lv (fun k => .float .f64 (cf (D fn k)))) := by
        have h1 := rd_of_row (hcA.DN.row fn hfn)
        have h2 : (stN s (fun k => Zc (swp SS (fun j k => cls (U j k)) (fun j k => cls (D j k)) fn tn) k n) (fun k => Hc (swp SS (fun j k => cls (U j k)) (fun j k => cls (D j k)) fn tn) k n) lv).dn = fun j k => cf (D j k) := ES.out.2.2
        have h3 : ∀ k, (stN s (fun k => Zc (swp SS (fun j k => cls (U j k)) (fun j k => cls (D j k)) fn tn) k n) (fun k => Hc (swp SS (fun j k => cls (U j k)) (fun j k => cls (D j k)) fn tn) k n) lv).dn fn k = cf (D fn k) := fun k => by rw [h2]
        intro k hk
        obtain ⟨b, o, e, hcell⟩ := h1 k hk
        exact ⟨b, o, e, hcell.trans (by show some (Value.float .f64 (St.dn _ fn k)) = _; exact congrArg (fun x => some (Value.float .f64 x)) (h3 k))⟩
      clear hcA tA HAF
      go_wp2_with fail
      refine (cloneFloats_any wA _ lv lv (fun k => cf (D fn k)) RD1.out hl).mono ?_
      rintro e wB ⟨ao', cap', rfl, _, bB, hB⟩
      obtain ⟨rfl, eB, rB, zB⟩ := hB rfl
      have eB' := eB.symm
      subst eB'
      have AB := hide (AA.out.1.of_block bB.block)
      have a1 : ∃ v, wB.cell? ⟨w7.heap.size, fn, none⟩ = some v := ⟨_, AB.out.out.cell hfn⟩
      obtain ⟨v1, a1⟩ := a1
      have a2 := AB.out.out.frozen fn
      have AC := hide (And.intro (AB.out.set fn wA.heap.size (fun k => cf (D fn k)) rB) (And.intro ((HCA.out.grown bB).setT AB.out.out (by obtain ⟨n1, n2, n3, n4⟩ := NUM.out; show w7.heap.size ≠ w4.heap.size; omega) (by obtain ⟨n1, n2, n3, n4⟩ := NUM.out; show w7.heap.size ≠ w5.heap.size; omega) (by obtain ⟨n1, n2, n3, n4⟩ := NUM.out; show w7.heap.size ≠ w6.heap.size; omega) fn (.slice (some ⟨wA.heap.size, 0, none⟩) lv lv))
        ((below_up AA.out.2.1 bB AA.out.2.2).setCell (p := ⟨w7.heap.size, fn, none⟩) (by obtain ⟨n1, n2, n3, n4⟩ := NUM.out; show w4.heap.size ≤ w7.heap.size; omega) (.slice (some ⟨wA.heap.size, 0, none⟩) lv lv))))
      have VC : Hid (∀ j, j < n → ¬ own (mkC w4.heap.size cS w71.heap.size w4.heap.size w5.heap.size w6.heap.size cZ cR cG cLO cU cMZ cMR n lv) (upd V fn wA.heap.size j)) := by
        intro j hj
        unfold upd
        split
        · intro h; have := OA.out _ h; omega
        · exact VA.out j hj
      have SZ : Hid (wA.heap.size ≤ wB.heap.size ∧ w4.heap.size ≤ wA.heap.size) := ⟨bB.size, AA.out.2.2⟩
      clear AA AB VA bB rB zB hB eB d1 RD1 HCA
      obtain ⟨wC, hwC⟩ : ∃ wC, wC = wB.setCell ⟨w7.heap.size, fn, none⟩ (.slice (some ⟨wA.heap.size, 0, none⟩) lv lv) := ⟨_, rfl⟩
      have szc : wC.heap.size = wB.heap.size := by rw [hwC]; simp
      have SZC := hide szc
      clear szc
      rw [← hwC] at AC
      have hcC := AC.out.2.1
      have d1 : wC.cell? ⟨w5.heap.size, tn, none⟩ = some (.slice (some ⟨w5.heap.size + 1 + tn, 0, none⟩) lv lv) := hcC.UP.out.cell htn
      have RD1 : Hid (Rd wC (some ⟨w5.heap.size + 1 + tn, 0, none⟩) lv (fun k => .float .f64 (cf (U tn k)))) := by
        have h1 := rd_of_row (hcC.UP.row tn htn)
        have h2 : (stN s (fun k => Zc (swp SS (fun j k => cls (U j k)) (fun j k => cls (D j k)) fn tn) k n) (fun k => Hc (swp SS (fun j k => cls (U j k)) (fun j k => cls (D j k)) fn tn) k n) lv).up = fun j k => cf (U j k) := ES.out.2.1
        have h3 : ∀ k, (stN s (fun k => Zc (swp SS (fun j k => cls (U j k)) (fun j k => cls (D j k)) fn tn) k n) (fun k => Hc (swp SS (fun j k => cls (U j k)) (fun j k => cls (D j k)) fn tn) k n) lv).up tn k = cf (U tn k) := fun k => by rw [h2]
        intro k hk
        obtain ⟨b, o, e, hcell⟩ := h1 k hk
        exact ⟨b, o, e, hcell.trans (by show some (Value.float .f64 (St.up _ tn k)) = _; exact congrArg (fun x => some (Value.float .f64 x)) (h3 k))⟩
      have d1' := d1
      rw [hwC] at d1'
      have HW := hide hwC
      clear hcC hwC d1
      go_wp2_with fail
      rw [← HW.out]
      clear a1 a2 d1' HW
      refine (cloneFloats_any wC _ lv lv (fun k => cf (U tn k)) RD1.out hl).mono ?_
      rintro e wD ⟨ao', cap', rfl, _, bD, hD'⟩
      obtain ⟨rfl, eD, rD, zD⟩ := hD' rfl
      have eD' := eD.symm
      subst eD'
      have AD := hide (AC.out.1.of_block bD.block)
      have a1 : ∃ v, wD.cell? ⟨w7.heap.size, tn, none⟩ = some v := ⟨_, AD.out.out.cell htn⟩
      obtain ⟨v2, a1⟩ := a1
      have a2 := AD.out.out.frozen tn
      have AE := hide (And.intro (AD.out.set tn wC.heap.size (fun k => cf (U tn k)) rD) (And.intro ((AC.out.2.1.grown bD).setT AD.out.out (by obtain ⟨n1, n2, n3, n4⟩ := NUM.out; show w7.heap.size ≠ w4.heap.size; omega) (by obtain ⟨n1, n2, n3, n4⟩ := NUM.out; show w7.heap.size ≠ w5.heap.size; omega) (by obtain ⟨n1, n2, n3, n4⟩ := NUM.out; show w7.heap.size ≠ w6.heap.size; omega) tn (.slice (some ⟨wC.heap.size, 0, none⟩) lv lv))
        ((below_up AC.out.2.2 bD (by have := SZ.out; have := SZC.out; omega)).setCell (p := ⟨w7.heap.size, tn, none⟩) (by obtain ⟨n1, n2, n3, n4⟩ := NUM.out; show w4.heap.size ≤ w7.heap.size; omega) (.slice (some ⟨wC.heap.size, 0, none⟩) lv lv))))
      have VE : Hid (∀ j, j < n → ¬ own (mkC w4.heap.size cS w71.heap.size w4.heap.size w5.heap.size w6.heap.size cZ cR cG cLO cU cMZ cMR n lv) (upd (upd V fn wA.heap.size) tn wC.heap.size j)) := by
        intro j hj
        unfold upd
        split
        · intro h; have := OA.out _ h; have := SZ.out; have := SZC.out; omega
        · exact VC.out j hj
      have SZE : Hid (w4.heap.size ≤ wD.heap.size) := by
        have := SZ.out
        have := SZC.out
        have := bD.size
        exact (by omega : w4.heap.size ≤ wD.heap.size)
      clear AC AD VC bD rD zD hD' eD RD1 OA SZ SZC
      rw [upd_swpS] at AE
      go_wp2_with fail
      obtain ⟨wE, hwE⟩ : ∃ wE, wE = wD.setCell ⟨w7.heap.size, tn, none⟩ (.slice (some ⟨wC.heap.size, 0, none⟩) lv lv) := ⟨_, rfl⟩
      have SZF : Hid (w4.heap.size ≤ wE.heap.size) := by
        have h1 : wE.heap.size = wD.heap.size := by rw [hwE]; simp
        have := SZE.out
        exact (by omega : w4.heap.size ≤ wE.heap.size)
      rw [← hwE] at AE ⊢
      clear a1 a2 hwE SZE
      refine (model_any wE _ n n lv _ _ _ AE.out.1.flts s1 hl FEWN.out).mono ?_
      rintro e w18 ⟨rfl, rfl⟩
      have hcmp : ∀ x y, (FloatKind.f64.format.order (vsum x y lv) (vsum x y lv) != some .eq) = false := fun x y => by
        have : FloatKind.f64.format.order (vsum x y lv) (vsum x y lv) = some .eq := order_self (vsum_nn _ _ _)
        rw [this]; rfl
      go_wp2_with fail
      clear hcmp
      have HZS : Hid (Calls Try.prog 21 #[.pointer (some ⟨cS, 0, none⟩)] w18 fun e w' => e = .returned (.slice (some ⟨cMZ, 0, none⟩) lv lv) ∧ w' = w18) := hide (movedZeros_any _ w18 _ AE.out.2.1)
      refine HZS.out.mono ?_
      rintro e w19 ⟨rfl, rfl⟩
      have MZ := hide AE.out.2.1.MZ
      clear HZS
      go_wp2_with fail
      go_loopg [23] lv (fun g i wr => ∃ k : Nat, k + g = lv ∧ i = .int .i64 k ∧ Below w19.heap.size w19 wr)
      case atStart => exact ⟨0, by omega, rfl, Below.refl _ _⟩
      case round =>
        obtain ⟨k, hk, rfl, hbr⟩ := hrel
        by_cases hkl : k < lv
        · have m1 := (MZ.out.of_block (hbr.block _ MZ.out.lt)).cell hkl
          have m2 : wr.cell? ⟨cMZ, k, none⟩ = some (.int .i64 ((Zc (swp SS (fun j k => cls (U j k)) (fun j k => cls (D j k)) fn tn) k n : Nat) : Int)) := by
            refine m1.trans ?_
            rw [stN_mz _ _ _ hkl]
          have AR := hide (AE.out.1.of_block hbr.block)
          have HBR := hide hbr
          clear m1 hbr
          have hz := Zc_le (swp SS (fun j k => cls (U j k)) (fun j k => cls (D j k)) fn tn) k n
          have hcmp : ((((Zc (swp SS (fun j k => cls (U j k)) (fun j k => cls (D j k)) fn tn) k n : Nat) : Int)) != (((Zc (swp SS (fun j k => cls (U j k)) (fun j k => cls (D j k)) fn tn) k n : Nat) : Int))) = false := by simp
          have HZZ := hide (fun nq => zerosAt_any (wr.drewN nq) _ n n lv _ _ _ ((AR.out.of_block (w' := wr.drewN nq) (fun _ _ => rfl)).flts) s1 k hkl hl)
          go_wp2_with fail
          go_quiet ((go_at_call 22; exact Calls.quiet_of_same (HZZ.out _)))
          go_wp2_with fail
          go_roundg (lv - (k + 1))
          case measure => omega
          case rel => exact ⟨k + 1, by omega, by go_num, below_drewN HBR.out _⟩
        · have ek : k = lv := by omega
          subst ek
          have FIN : Hid (Mid2 (mkC w4.heap.size cS w71.heap.size w4.heap.size w5.heap.size w6.heap.size cZ cR cG cLO cU cMZ cMR n k) w4 wr w7.heap.size n k (fun j k => cf (M j k)) (fun j k => cf (U j k)) (fun j k => cf (D j k)) (Sq (fun j k => cls (M j k)) (fun j k => cls (U j k)) (fun j k => cls (D j k)) (fun i => (f i).toNat) (fun i => (t i).toNat) (q + 1))) := by
            refine ⟨⟨_, AE.out.2.1.grown hbr, ES.out.1, ES.out.2.1, ES.out.2.2, fun i hi => ?_, fun i hi => ?_⟩, ⟨_, ?_, VE.out⟩, below_up AE.out.2.2 hbr SZF.out⟩
            · rw [NXT.out]; exact stN_mz _ _ _ hi
            · rw [NXT.out]; exact stN_mr _ _ _ hi
            · rw [NXT.out]; exact AE.out.1.of_block hbr.block
          clear hbr
          go_wp2_with fail
          go_roundg (nf - (q + 1))
          case measure => omega
          case rel => exact ⟨q + 1, by omega, by go_num, FIN.out⟩
    · go_wp2_with fail
      exact hR.out _ _ ⟨rfl, below_up B32.out.1 hmid.bel B32.out.2⟩

end Go.Proofs.Qxb6000633a
