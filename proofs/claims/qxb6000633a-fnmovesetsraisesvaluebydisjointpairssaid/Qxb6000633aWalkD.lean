/-
  The law on a round of sets, walked.
-/
import Derived.Test.Qxb6000633aSets
import Derived.Test.Qxb6000633aBytesC
import Derived.Test.Qxb6000633aPremC
import Derived.Test.Qxb6000633aCodes
import Derived.Test.Qxb6000633aClone
namespace Go.Proofs.Qxb6000633a
open Go.RowKit


set_option maxHeartbeats 2000000 in
set_option maxRecDepth 100000 in
theorem walkD (w : World) (xo ao bo co o1 o2 o3 o4 : Option Addr) (na n n2 n3 m1 m2 m3 m4 capx cap1 cap2 cap3 c1 c2 c3 c4 : Nat) (A1 A2 A3 : Nat → Option Addr) (L1 L2 L3 C1 C2 C3 : Nat → Nat) (M U D : Nat → Nat → Int) (a : Nat → Int) (d : Int) (f1 f3 : Nat → Int) (v2 v4 : Nat → Nat)
    (hM : Codes w ao n A1 L1 C1 M) (hU : Codes w bo n2 A2 L2 C2 U) (hD : Codes w co n3 A3 L3 C3 D) (ha : Rd w xo na (fun j => .int .i16 (a j))) (h1 : Rd w o1 m1 (fun i => .int .i64 (f1 i))) (h2 : Rd w o2 m2 (fun i => .float .f64 (v2 i))) (h3 : Rd w o3 m3 (fun i => .int .i64 (f3 i))) (h4 : Rd w o4 m4 (fun i => .float .f64 (v4 i)))
    (hna : na ≤ 9223372036854775807) (hm1 : m1 ≤ 9223372036854775807) (hm2 : m2 ≤ 9223372036854775807) (hm3 : m3 ≤ 9223372036854775807) (hm4 : m4 ≤ 9223372036854775807) (hab : ∀ j, j < na → (a j).natAbs ≤ 32768) (hdb : d.natAbs ≤ 32768) :
    Calls Try.prog 7 #[.slice xo na capx, .slice ao n cap1, .slice bo n2 cap2, .slice co n3 cap3, .int .i16 d, .slice o1 m1 c1, .slice o2 m2 c2, .slice o3 m3 c3, .slice o4 m4 c4] w fun e w' => e = .returned (.bool true) ∧ Below w.heap.size w w' := by
  refine calls_of_k fun R hR => ?_
  have HAB := hide hab
  clear hab
  go_enter Try.func7, Try.ntmps7
  go_wp2_with fail
  refine (bytes34_any w xo ao bo co na n n2 n3 capx cap1 cap2 cap3 A1 A2 A3 L1 L2 L3 C1 C2 C3 M U D hM hU hD d o1 o2 o3 o4 m1 m2 m3 m4 c1 c2 c3 c4 hna hm1 hm2 hm3 hm4).mono ?_
  rintro e w' ⟨b, rfl, hb, rfl⟩
  cases b
  · go_wp2_with fail
    exact hR.out _ _ ⟨rfl, Below.refl _ _⟩
  have hsh := hb (by first | rfl | trivial)
  clear hb hna hm1 hm2 hm3 hm4
  obtain ⟨s0, ⟨s1, s1'⟩, ⟨s2, s2'⟩, ⟨s3, s3'⟩, x1, x2, x3, x4⟩ := hsh
  have S := hide (And.intro s1' (And.intro s2' s3'))
  clear s1' s2' s3'
  go_wp2_with fail
  refine (climbBytes_any _ xo ao bo co na n n2 n3 capx cap1 cap2 cap3 A1 A2 A3 L1 L2 L3 C1 C2 C3 M U D hM hU hD s0 o1 o2 o3 o4 m1 m2 m3 m4 c1 c2 c3 c4 x1 x2 x3 x4).mono ?_
  rintro e w' ⟨q, rfl, rfl⟩
  by_cases hbig : 1048576 < q
  · go_wp2_with fail
    exact hR.out _ _ ⟨rfl, Below.refl _ _⟩
  go_wp2_with fail
  clear hbig
  refine (raisePremise_any _ xo ao bo co na n n2 n3 capx cap1 cap2 cap3 A1 A2 A3 L1 L2 L3 C1 C2 C3 M U D hM hU hD S.out.1 s0 d o1 o2 o3 o4 m1 m2 m3 m4 c1 c2 c3 c4 x1 x2 x3 x4 f1 f3 h1 h3).mono ?_
  rintro e w0 ⟨b, rfl, hb, rfl⟩
  cases b
  · go_wp2_with fail
    exact hR.out _ _ ⟨rfl, Below.refl _ _⟩
  obtain ⟨hfo, hra⟩ := hb (by first | rfl | trivial)
  clear hb
  have e1 := hfo.n1.symm
  subst e1
  have e2 := hfo.n2.symm
  have e3 := hfo.n3.symm
  subst e2 e3
  have e4 := hfo.g.symm
  have e5 := hfo.l.symm
  subst e4 e5
  obtain ⟨lv, hlv⟩ : ∃ lv, lv = (if na = 0 then 0 else L1 0) := ⟨_, rfl⟩
  rw [← hlv] at hfo hra
  have hl : lv ≤ 1048576 := by
    rw [hlv]; split
    · omega
    · exact S.out.1 0 (by omega)
  have HFO := hide hfo
  have HRA := hide hra
  have HL := hide hlv
  clear hfo hra hlv
  go_wp2_with fail
  refine (cloneInt16s_any _ xo _ capx a ha s0).mono ?_
  rintro e w1 ⟨xo', capx', rfl, ha1, b1, _⟩
  have I1 : RunIn w1 xo' ao bo co o1 o2 o3 o4 na lv m1 m3 A1 A2 A3 L1 L2 L3 C1 C2 C3 M U D a d f1 f3 v2 v4 := ⟨hM.stays b1, hU.stays b1, hD.stays b1, ha1, h1.stays b1, h2.stays b1, h3.stays b1, h4.stays b1⟩
  have B1 : Hid (Below w0.heap.size w0 w1 ∧ w0.heap.size ≤ w1.heap.size) := ⟨b1, b1.size⟩
  clear hM hU hD ha h1 h2 h3 h4 b1 ha1
  go_wp2_with fail
  refine (cloneCodes_any _ ao _ cap1 A1 L1 C1 M I1.hM s0 S.out.1).mono ?_
  rintro e w2 ⟨ao', aoc, A1', C1', rfl, hn2, b2⟩
  have I2 : RunIn w2 xo' ao' bo co o1 o2 o3 o4 na lv m1 m3 A1' A2 A3 L1 L2 L3 C1' C2 C3 M U D a d f1 f3 v2 v4 := ⟨hn2, (I1.stays b2).hU, (I1.stays b2).hD, (I1.stays b2).ha, (I1.stays b2).h1, (I1.stays b2).h2, (I1.stays b2).h3, (I1.stays b2).h4⟩
  have B2 : Hid (Below w0.heap.size w0 w2 ∧ w0.heap.size ≤ w2.heap.size) := ⟨below_up B1.out.1 b2 B1.out.2, Nat.le_trans B1.out.2 b2.size⟩
  clear I1 B1 b2 hn2
  go_wp2_with fail
  refine (cloneCodes_any _ bo _ cap2 A2 L2 C2 U I2.hU s0 S.out.2.1).mono ?_
  rintro e w3 ⟨bo', boc, A2', C2', rfl, hn3, b3⟩
  have I3 : RunIn w3 xo' ao' bo' co o1 o2 o3 o4 na lv m1 m3 A1' A2' A3 L1 L2 L3 C1' C2' C3 M U D a d f1 f3 v2 v4 := ⟨(I2.stays b3).hM, hn3, (I2.stays b3).hD, (I2.stays b3).ha, (I2.stays b3).h1, (I2.stays b3).h2, (I2.stays b3).h3, (I2.stays b3).h4⟩
  have B3 : Hid (Below w0.heap.size w0 w3 ∧ w0.heap.size ≤ w3.heap.size) := ⟨below_up B2.out.1 b3 B2.out.2, Nat.le_trans B2.out.2 b3.size⟩
  clear I2 B2 b3 hn3
  go_wp2_with fail
  refine (cloneCodes_any _ co _ cap3 A3 L3 C3 D I3.hD s0 S.out.2.2).mono ?_
  rintro e w4 ⟨co', coc, A3', C3', rfl, hn4, b4⟩
  have I4 : RunIn w4 xo' ao' bo' co' o1 o2 o3 o4 na lv m1 m3 A1' A2' A3' L1 L2 L3 C1' C2' C3' M U D a d f1 f3 v2 v4 := ⟨(I3.stays b4).hM, (I3.stays b4).hU, hn4, (I3.stays b4).ha, (I3.stays b4).h1, (I3.stays b4).h2, (I3.stays b4).h3, (I3.stays b4).h4⟩
  have B4 : Hid (Below w0.heap.size w0 w4 ∧ w0.heap.size ≤ w4.heap.size) := ⟨below_up B3.out.1 b4 B3.out.2, Nat.le_trans B3.out.2 b4.size⟩
  clear I3 B3 b4 hn4
  go_wp2_with fail
  refine (cloneInts_any _ o1 _ c1 f1 I4.h1 x1).mono ?_
  rintro e w5 ⟨o1', o1c, rfl, hn5, b5, _⟩
  have I5 : RunIn w5 xo' ao' bo' co' o1' o2 o3 o4 na lv m1 m3 A1' A2' A3' L1 L2 L3 C1' C2' C3' M U D a d f1 f3 v2 v4 := ⟨(I4.stays b5).hM, (I4.stays b5).hU, (I4.stays b5).hD, (I4.stays b5).ha, hn5, (I4.stays b5).h2, (I4.stays b5).h3, (I4.stays b5).h4⟩
  have B5 : Hid (Below w0.heap.size w0 w5 ∧ w0.heap.size ≤ w5.heap.size) := ⟨below_up B4.out.1 b5 B4.out.2, Nat.le_trans B4.out.2 b5.size⟩
  clear I4 B4 b5 hn5
  go_wp2_with fail
  refine (cloneFloats_any _ o2 _ c2 v2 I5.h2 x1).mono ?_
  rintro e w6 ⟨o2', o2c, rfl, hn6, b6, _⟩
  have I6 : RunIn w6 xo' ao' bo' co' o1' o2' o3 o4 na lv m1 m3 A1' A2' A3' L1 L2 L3 C1' C2' C3' M U D a d f1 f3 v2 v4 := ⟨(I5.stays b6).hM, (I5.stays b6).hU, (I5.stays b6).hD, (I5.stays b6).ha, (I5.stays b6).h1, hn6, (I5.stays b6).h3, (I5.stays b6).h4⟩
  have B6 : Hid (Below w0.heap.size w0 w6 ∧ w0.heap.size ≤ w6.heap.size) := ⟨below_up B5.out.1 b6 B5.out.2, Nat.le_trans B5.out.2 b6.size⟩
  clear I5 B5 b6 hn6
  go_wp2_with fail
  refine (cloneInts_any _ o3 _ c3 f3 I6.h3 x3).mono ?_
  rintro e w7 ⟨o3', o3c, rfl, hn7, b7, _⟩
  have I7 : RunIn w7 xo' ao' bo' co' o1' o2' o3' o4 na lv m1 m3 A1' A2' A3' L1 L2 L3 C1' C2' C3' M U D a d f1 f3 v2 v4 := ⟨(I6.stays b7).hM, (I6.stays b7).hU, (I6.stays b7).hD, (I6.stays b7).ha, (I6.stays b7).h1, (I6.stays b7).h2, hn7, (I6.stays b7).h4⟩
  have B7 : Hid (Below w0.heap.size w0 w7 ∧ w0.heap.size ≤ w7.heap.size) := ⟨below_up B6.out.1 b7 B6.out.2, Nat.le_trans B6.out.2 b7.size⟩
  clear I6 B6 b7 hn7
  go_wp2_with fail
  refine (cloneFloats_any _ o4 _ c4 v4 I7.h4 x3).mono ?_
  rintro e w8 ⟨o4', o4c, rfl, hn8, b8, _⟩
  have I8 : RunIn w8 xo' ao' bo' co' o1' o2' o3' o4' na lv m1 m3 A1' A2' A3' L1 L2 L3 C1' C2' C3' M U D a d f1 f3 v2 v4 := ⟨(I7.stays b8).hM, (I7.stays b8).hU, (I7.stays b8).hD, (I7.stays b8).ha, (I7.stays b8).h1, (I7.stays b8).h2, (I7.stays b8).h3, hn8⟩
  have B8 : Hid (Below w0.heap.size w0 w8 ∧ w0.heap.size ≤ w8.heap.size) := ⟨below_up B7.out.1 b8 B7.out.2, Nat.le_trans B7.out.2 b8.size⟩
  clear I7 B7 b8 hn8
  go_wp2_with fail
  refine (climbRun_any true (fun k => 1 ≤ k) zzMoveSets_any w8 xo' ao' bo' co' o1' o2' o3' o4' na lv m1 m3 capx' aoc boc coc o1c o2c o3c o4c A1' A2' A3' L1 L2 L3 C1' C2' C3' M U D a d f1 f3 v2 v4 I8 s0 hl HL.out HFO.out HRA.out HAB.out hdb).mono ?_
  rintro e w9 ⟨b, q, v0, v1, rfl, hno, hyes, n0, n1, b9⟩
  have B9 := hide (below_up B8.out.1 b9 B8.out.2)
  clear I8 B8 b9
  cases b
  · obtain ⟨rfl, rfl⟩ := hno (by first | rfl | trivial)
    have hq := eqb_self (x := v1) (Nat.le_of_lt n1)
    clear hno hyes
    go_wp2_with fail
    exact hR.out _ _ ⟨rfl, B9.out⟩
  · obtain ⟨hk, hlt⟩ := hyes (by first | rfl | trivial)
    have hq : (FloatKind.f64.format.order v1 v0 == some .gt) = true := by
      have : FloatKind.f64.format.order v1 v0 = some .gt := (order_gt n1 n0).2 hlt
      rw [this]; rfl
    have hk1 : (1 : Int) ≤ (q : Int) := by have : 1 ≤ q := hk; omega
    clear hno hyes hlt hk
    go_wp2_with fail
    exact hR.out _ _ ⟨rfl, B9.out⟩

end Go.Proofs.Qxb6000633a
