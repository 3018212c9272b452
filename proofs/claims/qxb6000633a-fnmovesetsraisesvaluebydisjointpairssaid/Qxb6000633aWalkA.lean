/-
  FnMovedMatchesFreshValue: the walk.
-/
import Derived.Test.Qxb6000633aPlain
import Derived.Test.Qxb6000633aPrem
import Derived.Test.Qxb6000633aBytes
import Derived.Test.Qxb6000633aCodes
namespace Go.Proofs.Qxb6000633a
open Go.RowKit
attribute [local go_sem] run_store_float

/-- a table whose rows lie where V says -/
structure Aft (w : World) (T n lv : Nat) (V : Nat → Nat) (F : Nat → Nat → Nat) : Prop where
  out : w.rowIs T 30 n (fun j => sl (V j) lv)
  row : ∀ j, j < n → w.rowIs (V j) 32 lv (fun k => .float .f64 (F j k))

theorem FTab.aft {w : World} {B n lv : Nat} {F : Nat → Nat → Nat} (h : FTab w B n lv F) : Aft w B n lv (fun j => B + 1 + j) F := ⟨h.out, h.row⟩
theorem Aft.of_block {w w' : World} {T n lv : Nat} {V : Nat → Nat} {F : Nat → Nat → Nat} (h : Aft w T n lv V F) (e : ∀ b, b < w.heap.size → w'.heap[b]? = w.heap[b]?) : Aft w' T n lv V F :=
  ⟨h.out.of_block (e _ h.out.lt), fun j hj => (h.row j hj).of_block (e _ (h.row j hj).lt)⟩
theorem Aft.set {w : World} {T n lv : Nat} {V : Nat → Nat} {F : Nat → Nat → Nat} (h : Aft w T n lv V F) (i b : Nat) (G : Nat → Nat) (hb : w.rowIs b 32 lv (fun k => .float .f64 (G k))) :
    Aft (w.setCell ⟨T, i, none⟩ (.slice (some ⟨b, 0, none⟩) lv lv)) T n lv (upd V i b) (upd F i G) := by
  refine ⟨(h.out.set i _).congr fun j _ => ?_, fun j hj => ?_⟩
  · unfold upd
    show (if j = i then _ else _) = sl (if j = i then b else V j) lv
    split <;> rfl
  · unfold upd
    by_cases e : j = i
    · rw [if_pos e, if_pos e]; exact hb.setOther (row_ne hb h.out (by decide)) _
    · rw [if_neg e, if_neg e]; exact (h.row j hj).setOther (row_ne (h.row j hj) h.out (by decide)) _
theorem Aft.flts {w : World} {T n lv : Nat} {V : Nat → Nat} {F : Nat → Nat → Nat} (h : Aft w T n lv V F) : Flts w (some ⟨T, 0, none⟩) n lv (fun j => some ⟨V j, 0, none⟩) (fun _ => lv) F :=
  ⟨fun j hj => ⟨T, 0, rfl, by rw [Nat.zero_add]; exact h.out.cell hj⟩, fun j hj k hk => ⟨_, 0, rfl, by rw [Nat.zero_add]; exact (h.row j hj).cell hk⟩⟩

/-- lower bounds travel up -/
theorem below_up {B : Nat} {a b c : World} (h : Below B a b) (k : Below b.heap.size b c) (hB : B ≤ b.heap.size) : Below B a c := h.trans (k.mono hB)

theorem stK_zs {al : Nat → Nat} {ch up dn : Nat → Nat → Nat} (Q : Nat → Nat → Nat) (n lv k : Nat) (hk : k < lv) : (stK (st0 al ch up dn) Q n lv).zs k = (Zc Q k n : Nat) := by
  show mix lv (zF Q n) _ k = _
  unfold mix
  rw [if_pos hk]; rfl
theorem stK_rs {al : Nat → Nat} {ch up dn : Nat → Nat → Nat} (Q : Nat → Nat → Nat) (n lv k : Nat) (hk : k < lv) : (stK (st0 al ch up dn) Q n lv).rs k = pw (Hc Q k n) := by
  show mix lv (rF Q n) _ k = _
  unfold mix
  rw [if_pos hk]; rfl

theorem stN_mz (s : St) (Z1 H1 : Nat → Nat) {lv k : Nat} (hk : k < lv) : (stN s Z1 H1 lv).mz k = (Z1 k : Int) := by
  unfold stN mix
  exact if_pos hk

/-- the table behind the two exchanges -/
theorem upd_swp (M U D : Nat → Nat → Int) (f t : Nat) : upd (upd (fun j k => cf (M j k)) f (fun k => cf (D f k))) t (fun k => cf (U t k)) =
    fun j k => qb (swp (fun j k => cls (M j k)) (fun j k => cls (U j k)) (fun j k => cls (D j k)) f t j k) := by
  funext j k
  unfold upd swp
  by_cases h1 : j = t
  · simp only [if_pos h1]; exact cf_cls _
  · by_cases h2 : j = f
    · simp only [if_neg h1, if_pos h2]; exact cf_cls _
    · simp only [if_neg h1, if_neg h2]; exact cf_cls _

set_option maxHeartbeats 2000000 in
set_option maxRecDepth 100000 in
theorem walkA (w : World) (ao bo co : Option Addr) (n n2 n3 cap1 cap2 cap3 : Nat) (A1 A2 A3 : Nat → Option Addr) (L1 L2 L3 C1 C2 C3 : Nat → Nat) (M U D : Nat → Nat → Int)
    (hM : Codes w ao n A1 L1 C1 M) (hU : Codes w bo n2 A2 L2 C2 U) (hD : Codes w co n3 A3 L3 C3 D) (f t : Int) :
    Calls Try.prog 3 #[.slice ao n cap1, .slice bo n2 cap2, .slice co n3 cap3, .int .i64 f, .int .i64 t] w fun e w' => e = .returned (.bool true) ∧ Below w.heap.size w w' := by
  refine calls_of_k fun R hR => ?_
  go_enter Try.func3, Try.ntmps3
  go_wp2_with fail
  refine (bytes9_any w ao bo co n n2 n3 cap1 cap2 cap3 A1 A2 A3 L1 L2 L3 C1 C2 C3 M U D hM hU hD f t).mono ?_
  rintro e w' ⟨b, rfl, hb, rfl⟩
  cases b
  · go_wp2_with fail
    exact hR.out _ _ ⟨rfl, Below.refl _ _⟩
  obtain ⟨⟨s1, s2⟩, ⟨s3, s4⟩, ⟨s5, s6⟩⟩ := hb rfl
  have S := hide (And.intro s2 (And.intro s4 s6))
  clear hb s2 s4 s6
  go_wp2_with fail
  refine (codeBytes_any _ ao n cap1 A1 L1 C1 M hM).mono ?_
  rintro e w' ⟨r1, rfl, g1, g2, rfl⟩
  go_wp2_with fail
  refine (codeBytes_any _ bo n2 cap2 A2 L2 C2 U hU).mono ?_
  rintro e w' ⟨r2, rfl, g3, g4, rfl⟩
  go_wp2_with fail
  refine (codeBytes_any _ co n3 cap3 A3 L3 C3 D hD).mono ?_
  rintro e w' ⟨r3, rfl, g5, g6, rfl⟩
  by_cases hbig : 1048576 < r1 + r2 + r3
  · go_wp2_with fail
    exact hR.out _ _ ⟨rfl, Below.refl _ _⟩
  go_wp2_with fail
  clear hbig g1 g2 g3 g4 g5 g6
  refine (pairPremise_any _ ao bo co n n2 n3 cap1 cap2 cap3 A1 A2 A3 L1 L2 L3 C1 C2 C3 M U D hM hU hD s1 S.out.1 f t).mono ?_
  rintro e w0 ⟨b, rfl, hb, rfl⟩
  cases b
  · go_wp2_with fail
    exact hR.out _ _ ⟨rfl, Below.refl _ _⟩
  obtain ⟨e2, e3, hf0, hf1, ht0, ht1, hft, hsh⟩ := hb rfl
  clear hb
  have e2' := e2.symm
  have e3' := e3.symm
  subst e2' e3'
  clear e2 e3
  obtain ⟨fn, rfl⟩ := Int.eq_ofNat_of_zero_le hf0
  obtain ⟨tn, rfl⟩ := Int.eq_ofNat_of_zero_le ht0
  have hfn : fn < n := by omega
  have htn : tn < n := by omega
  have hne : fn ≠ tn := by omega
  obtain ⟨lv, hlv⟩ : ∃ lv, lv = (if n = 0 then 0 else L1 0) := ⟨_, rfl⟩
  rw [← hlv] at hsh
  have hl : lv ≤ 1048576 := by rw [hlv, if_neg (by omega)]; exact S.out.1 0 (by omega)
  have HL := hide hlv
  have HSH := hide hsh
  have HNE := hide hne
  clear hf0 hf1 ht0 ht1 hft hsh hlv s3 s5 hne
  go_wp2_with fail
  refine (cloneCodes_any _ ao n cap1 A1 L1 C1 M hM s1 S.out.1).mono ?_
  rintro e w1 ⟨ao1, cap1', A1', C1', rfl, hM1, b1⟩
  have hU1 := hU.stays b1
  have hD1 := hD.stays b1
  clear hM hU hD
  have B1 := hide b1
  clear b1
  go_wp2_with fail
  refine (cloneCodes_any _ bo n cap2 A2 L2 C2 U hU1 s1 S.out.2.1).mono ?_
  rintro e w2 ⟨bo1, cap2', A2', C2', rfl, hU2, b2⟩
  have hM2 := hM1.stays b2
  have hD2 := hD1.stays b2
  clear hM1 hU1 hD1
  have B2 := hide b2
  clear b2
  go_wp2_with fail
  refine (cloneCodes_any _ co n cap3 A3 L3 C3 D hD2 s1 S.out.2.2).mono ?_
  rintro e w3 ⟨co1, cap3', A3', C3', rfl, hD3, b3⟩
  have hM3 := hM2.stays b3
  have hU3 := hU2.stays b3
  have B3 : Hid (Below w0.heap.size w0 w3 ∧ w0.heap.size ≤ w3.heap.size) := by
    have q1 := B1.out.size
    have q2 := B2.out.size
    have q3 := b3.size
    exact ⟨below_up (below_up B1.out B2.out (by omega)) b3 (by omega), by omega⟩
  clear hM2 hU2 hD2 B1 B2 b3
  go_wp2_with fail
  refine (levels_any _ ao1 n cap1' A1' L1 C1' M hM3).mono ?_
  rintro e w4 ⟨rfl, rfl⟩
  rw [← HL.out]
  go_wp2_with fail
  refine (floats_any _ ao1 n cap1' lv A1' L1 C1' M hM3 HSH.out.e1 s1 hl).mono ?_
  rintro e w5 ⟨rfl, t1, b5, z5⟩
  have hU5 := hU3.stays b5
  have hD5 := hD3.stays b5
  have P5 := hide (And.intro t1 (And.intro b5 z5))
  clear t1 b5 z5 hU3 hD3
  go_wp2_with fail
  refine (floats_any _ bo1 n cap2' lv A2' L2 C2' U hU5 HSH.out.e2 s1 hl).mono ?_
  rintro e w6 ⟨rfl, t2, b6, z6⟩
  have hD6 := hD5.stays b6
  have P6 := hide (And.intro t2 (And.intro b6 z6))
  clear t2 b6 z6 hU5 hD5
  go_wp2_with fail
  refine (floats_any _ co1 n cap3' lv A3' L3 C3' D hD6 HSH.out.e3 s1 hl).mono ?_
  rintro e w7 ⟨rfl, t3, b7, z7⟩
  have P7 := hide (And.intro t3 (And.intro b7 z7))
  clear t3 b7 z7 hD6
  have hmk := run_make_row' (P := Try.prog) 30 32 (.float .f64 0) 8 Try.underlying30 Try.info32 rfl .i64 .i64 n (by omega) (by omega)
  go_wp2_with fail
  clear hmk
  have HN : Hid (NewIn (w7.alloc (.cells (madeCells #[.float .f64 0] n) 32)) w4.heap.size n lv w7.heap.size w4.heap.size w5.heap.size w6.heap.size (fun _ => 0) (fun j k => cf (M j k)) (fun j k => cf (U j k)) (fun j k => cf (D j k))) := by
    obtain ⟨t1, b5, z5⟩ := P5.out
    obtain ⟨t2, b6, z6⟩ := P6.out
    obtain ⟨t3, b7, z7⟩ := P7.out
    refine ⟨by simp; omega, by omega, Nat.le_refl _, World.rowIs_made w7 _ n 32, ?_, ?_, t3.of_block (fun b hb => Below.heap_alloc _ _ _ hb), fun j hj => ⟨by omega, by omega, by omega⟩, by omega, by omega⟩
    · exact (t1.of_block (fun b hb => (b7.block b (by omega)).trans (b6.block b (by omega)))).of_block (fun b hb => Below.heap_alloc _ _ _ hb)
    · exact (t2.of_block (fun b hb => b7.block b (by omega))).of_block (fun b hb => Below.heap_alloc _ _ _ hb)
  have B8 : Hid (Below w4.heap.size w4 (w7.alloc (.cells (madeCells #[.float .f64 0] n) 32)) ∧ w4.heap.size ≤ (w7.alloc (.cells (madeCells #[.float .f64 0] n) 32)).heap.size) := by
    obtain ⟨_, b5, z5⟩ := P5.out
    obtain ⟨_, b6, z6⟩ := P6.out
    obtain ⟨_, b7, z7⟩ := P7.out
    exact ⟨(below_up (below_up b5 b6 (by omega)) b7 (by omega)).alloc (by omega) _, by simp; omega⟩
  clear P5 P6 P7
  generalize w7.alloc (.cells (madeCells #[.float .f64 0] n) 32) = w8 at HN B8 ⊢
  refine (newClimb_any w8 w4.heap.size n lv w7.heap.size w4.heap.size w5.heap.size w6.heap.size _ _ _ _ HN.out none none none none 0 0 0 0 0 0 (fun _ => 0) (fun _ => 0) (fun _ => 0) (fun _ => 0) (fun i hi => by omega) (fun i hi => by omega) (fun i hi => by omega) (fun i hi => by omega) s1 hl (by omega) (by omega)).mono ?_
  rintro e w9 ⟨cS, cZ, cR, cG, cLO, cU, cMZ, cMR, rfl, hc, b9, _⟩
  have B9 : Hid (Below w4.heap.size w4 w9 ∧ w4.heap.size ≤ w9.heap.size) := ⟨below_up B8.out.1 b9 B8.out.2, by have := B8.out.2; have := b9.size; omega⟩
  clear HN B8 b9
  go_wp2_with fail
  have FEW : Hid (∀ k, k < lv → Hc (fun j k => cls (M j k)) k n + Hc (fun j k => cls (U j k)) k n + Hc (fun j k => cls (D j k)) k n ≤ 1000) := by
    intro k hk
    rw [hv_Hc, hv_Hc, hv_Hc]
    exact HSH.out.few k hk
  refine (zzTally_any _ w9 _ (fun j k => cls (M j k)) hc (fun j k _ _ => cf_cls _) s1 hl (fun k hk => by have := FEW.out k hk; show Hc _ k n ≤ 1000; omega)).mono ?_
  rintro e w10 ⟨rfl, hc10, b10⟩
  have B10 : Hid (Below w4.heap.size w4 w10 ∧ w4.heap.size ≤ w10.heap.size) := ⟨B9.out.1.trans (b10.below hc.own_lo B9.out.2), by have := B9.out.2; have := b10.size; omega⟩
  clear B9 b10 hc
  go_wp2_with fail
  refine (setMoved_any _ w10 _ hc10).mono ?_
  rintro e w11 ⟨rfl, hc11, b11⟩
  have B11 : Hid (Below w4.heap.size w4 w11 ∧ w4.heap.size ≤ w11.heap.size) := ⟨B10.out.1.trans (b11.below hc10.own_lo B10.out.2), by have := B10.out.2; have := b11.size; omega⟩
  clear B10 b11 hc10
  go_wp2_with fail
  refine (zzMoved_any _ w11 _ (fun j k => cls (M j k)) (fun j k => cls (U j k)) (fun j k => cls (D j k)) fn tn _ _ hc11 (fun j k _ _ => cf_cls _) (fun j k _ _ => cf_cls _) (fun j k _ _ => cf_cls _) s1 hl hfn htn (room_of hfn htn HNE.out s1 FEW.out (fun k hk => stK_zs _ n lv k hk) (fun k hk => stK_rs _ n lv k hk))).mono ?_
  rintro e w12 ⟨rfl, hc12, b12⟩
  have B12 : Hid (Below w4.heap.size w4 w12 ∧ w4.heap.size ≤ w12.heap.size) := ⟨B11.out.1.trans (b12.below hc11.own_lo B11.out.2), by have := B11.out.2; have := b12.size; omega⟩
  clear B11 b12 hc11
  have hM12 := hM3.stays B12.out.1
  clear hM3
  go_wp2_with fail
  refine (floats_any _ ao1 n cap1' lv A1' L1 C1' M hM12 HSH.out.e1 s1 hl).mono ?_
  rintro e w13 ⟨rfl, t13, b13, z13⟩
  have hc13 := hc12.grown b13
  have A13 := hide t13.aft
  have B13 := hide b13
  clear t13 b13 z13 hM12
  have d1 : w13.cell? ⟨w6.heap.size, fn, none⟩ = some (.slice (some ⟨w6.heap.size + 1 + fn, 0, none⟩) lv lv) := hc13.DN.out.cell hfn
  have rd1 := rd_of_row (hc13.DN.row fn hfn)
  have RD1 := hide rd1
  have HC12 := hide hc12
  clear hc13 rd1 hc12
  go_wp2_with fail
  refine (cloneFloats_any w13 _ lv lv (fun k => cf (D fn k)) RD1.out hl).mono ?_
  rintro e w14 ⟨ao', cap', rfl, _, b14, h14⟩
  obtain ⟨rfl, e14, r14, z14⟩ := h14 rfl
  have e14' := e14.symm
  subst e14'
  have A14 := hide (A13.out.of_block b14.block)
  have a1 : w14.cell? ⟨w12.heap.size, fn, none⟩ = some (.slice (some ⟨w12.heap.size + 1 + fn, 0, none⟩) lv lv) := A14.out.out.cell hfn
  have a2 := A14.out.out.frozen fn
  have A15 := hide (A14.out.set fn w13.heap.size (fun k => cf (D fn k)) r14)
  have B15 := hide ((below_up B13.out b14 B13.out.size).setCell (p := ⟨w12.heap.size, fn, none⟩) (Nat.le_refl _) (.slice (some ⟨w13.heap.size, 0, none⟩) lv lv))
  clear A13 A14 B13 b14 r14 z14 d1 RD1 h14 e14
  obtain ⟨w15, hw15⟩ : ∃ w15, w15 = w14.setCell ⟨w12.heap.size, fn, none⟩ (.slice (some ⟨w13.heap.size, 0, none⟩) lv lv) := ⟨_, rfl⟩
  rw [← hw15] at A15 B15
  have hc15 := HC12.out.grown B15.out
  have d1 : w15.cell? ⟨w5.heap.size, tn, none⟩ = some (.slice (some ⟨w5.heap.size + 1 + tn, 0, none⟩) lv lv) := hc15.UP.out.cell htn
  have rd1 := rd_of_row (hc15.UP.row tn htn)
  have RD1 := hide rd1
  have d1' := d1
  rw [hw15] at d1'
  have HW := hide hw15
  clear hc15 rd1 hw15 d1
  go_wp2_with fail
  rw [← HW.out]
  clear a1 a2 d1'
  refine (cloneFloats_any w15 _ lv lv (fun k => cf (U tn k)) RD1.out hl).mono ?_
  rintro e w16 ⟨ao', cap', rfl, _, b16, h16⟩
  obtain ⟨rfl, e16, r16, z16⟩ := h16 rfl
  have e16' := e16.symm
  subst e16'
  have A16 := hide (A15.out.of_block b16.block)
  have a1 : ∃ v, w16.cell? ⟨w12.heap.size, tn, none⟩ = some v := ⟨_, A16.out.out.cell htn⟩
  obtain ⟨v1, a1⟩ := a1
  have a2 := A16.out.out.frozen tn
  have A17 := hide (A16.out.set tn w15.heap.size (fun k => cf (U tn k)) r16)
  have B17 := hide ((below_up B15.out b16 B15.out.size).setCell (p := ⟨w12.heap.size, tn, none⟩) (Nat.le_refl _) (.slice (some ⟨w15.heap.size, 0, none⟩) lv lv))
  clear A15 A16 B15 b16 r16 z16 RD1 h16 e16 HW
  rw [upd_swp] at A17
  go_wp2_with fail
  generalize w16.setCell ⟨w12.heap.size, tn, none⟩ (.slice (some ⟨w15.heap.size, 0, none⟩) lv lv) = w17 at A17 B17 ⊢
  clear a1 a2
  refine (model_any w17 _ n n lv _ _ _ A17.out.flts s1 hl (fun k hk => Hc_swp_le hfn htn HNE.out (FEW.out k hk))).mono ?_
  rintro e w18 ⟨rfl, rfl⟩
  have hcmp : ∀ x y, (FloatKind.f64.format.order (vsum x y lv) (vsum x y lv) != some .eq) = false := fun x y => by
    have : FloatKind.f64.format.order (vsum x y lv) (vsum x y lv) = some .eq := order_self (vsum_nn _ _ _)
    rw [this]; rfl
  go_wp2_with fail
  clear hcmp
  have hc18 := HC12.out.grown B17.out
  refine (movedZeros_any _ w18 _ hc18).mono ?_
  rintro e w19 ⟨rfl, rfl⟩
  have MZ := hide hc18.MZ
  have B19 := hide (below_up B12.out.1 B17.out B12.out.2)
  have Z19 : Hid (w4.heap.size ≤ w19.heap.size) := by
    have := B12.out.2
    have := B17.out.size
    exact (by omega : w4.heap.size ≤ w19.heap.size)
  clear hc18 HC12 B17 B12
  go_wp2_with fail
  go_loopg [20] lv (fun g i wr => ∃ k : Nat, k + g = lv ∧ i = .int .i64 k ∧ Below w19.heap.size w19 wr)
  case atStart => exact ⟨0, by omega, rfl, Below.refl _ _⟩
  case round =>
    obtain ⟨k, hk, rfl, hbr⟩ := hrel
    by_cases hkl : k < lv
    · have m1 := (MZ.out.of_block (hbr.block _ MZ.out.lt)).cell hkl
      have m2 : wr.cell? ⟨cMZ, k, none⟩ = some (.int .i64 ((Zc (swp (fun j k => cls (M j k)) (fun j k => cls (U j k)) (fun j k => cls (D j k)) fn tn) k n : Nat) : Int)) := by
        refine m1.trans ?_
        rw [stN_mz _ _ _ hkl]
      have AR := hide (A17.out.of_block hbr.block)
      have HBR := hide hbr
      clear m1 hbr
      have hz := Zc_le (swp (fun j k => cls (M j k)) (fun j k => cls (U j k)) (fun j k => cls (D j k)) fn tn) k n
      have hcmp : ((((Zc (swp (fun j k => cls (M j k)) (fun j k => cls (U j k)) (fun j k => cls (D j k)) fn tn) k n : Nat) : Int)) != (((Zc (swp (fun j k => cls (M j k)) (fun j k => cls (U j k)) (fun j k => cls (D j k)) fn tn) k n : Nat) : Int))) = false := by simp
      have hzz := fun nq => zerosAt_any (wr.drewN nq) _ n n lv _ _ _ ((AR.out.of_block (w' := wr.drewN nq) (fun _ _ => rfl)).flts) s1 k hkl hl
      have HZZ := hide hzz
      clear hzz
      go_wp2_with fail
      go_quiet ((go_at_call 22; exact Calls.quiet_of_same (HZZ.out _)))
      go_wp2_with fail
      go_roundg (lv - (k + 1))
      case measure => omega
      case rel => exact ⟨k + 1, by omega, by go_num, below_drewN HBR.out _⟩
    · have ek : k = lv := by omega
      subst ek
      go_wp2_with fail
      exact hR.out _ _ ⟨rfl, below_up B3.out.1 (below_up B19.out hbr Z19.out) B3.out.2⟩

end Go.Proofs.Qxb6000633a
