/-
  What is read after a round.
-/
import Derived.Test.Qxb6000633aPair
import Derived.Test.Qxb6000633aPremC
import Derived.BigQuiet
namespace Go.Proofs.Qxb6000633a
open Go.RowKit

theorem flt_fI (n : Int) : floatOfInt .f64 n = fI n := rfl

theorem eqb_self {x : Nat} (h : NN x) : (FloatKind.f64.format.order x x == some .eq) = true := by
  have : FloatKind.f64.format.order x x = some .eq := order_self h
  rw [this]; rfl

theorem eqb_fI {a b : Int} (ha : a.natAbs < 9007199254740992) (hb : b.natAbs < 9007199254740992) : (FloatKind.f64.format.order (fI a) (fI b) == some .eq) = decide (a = b) := by
  have : FloatKind.f64.format.order (fI a) (fI b) = some (compare a b) := order_fI ha hb
  rw [this]
  by_cases h : a = b
  · subst h; simp
  · have : compare a b ≠ .eq := fun e => h (Int.compare_eq_eq.1 e)
    simp [h, this]

set_option maxHeartbeats 1000000 in
theorem rowEq_any (w : World) (b1 b2 lv : Nat) (g1 g2 : Nat → Nat) (h1 : w.rowIs b1 32 lv (fun k => .float .f64 (g1 k))) (h2 : w.rowIs b2 32 lv (fun k => .float .f64 (g2 k)))
    (hlv : lv ≤ 1048576) (he : ∀ k, k < lv → g1 k = g2 k) (hn : ∀ k, k < lv → NN (g1 k)) :
    Calls Try.prog 51 #[.slice (some ⟨b1, 0, none⟩) lv lv, .slice (some ⟨b2, 0, none⟩) lv lv] w fun e w' => e = .returned (.bool true) ∧ ∃ m, w' = w.drewN m := by
  refine calls_of_k fun R hR => ?_
  have H1 := hide h1
  have H2 := hide h2
  have HE := hide he
  have HN := hide hn
  clear h1 h2 he hn
  go_enter Try.func51, Try.ntmps51
  go_wp2
  go_loopg [5] lv (fun g i wr => ∃ k m : Nat, k + g = lv ∧ i = .int .i64 k ∧ wr = w.drewN m)
  case atStart => exact ⟨0, 0, by omega, rfl, rfl⟩
  case round =>
    obtain ⟨k, m, hk, rfl, rfl⟩ := hrel
    by_cases hlt : k < lv
    · have c1 := H1.out.cell hlt
      have c2 := H2.out.cell hlt
      rw [← HE.out k hlt] at c2
      have hq : (FloatKind.f64.format.order (g1 k) (g1 k) != some .eq) = false := by have := eqb_self (HN.out k hlt); simpa [bne] using this
      go_wp2
      go_region
      go_wp2
      go_roundg (lv - (k + 1))
      case measure => omega
      case rel => exact ⟨k + 1, _, by omega, by go_num, rfl⟩
    · go_wp2
      exact hR.out _ _ ⟨rfl, _, rfl⟩

set_option maxHeartbeats 1000000 in
theorem has_any (w : World) (ao : Option Addr) (m cap x : Nat) (f : Nat → Int) (hf : Rd w ao m (fun i => .int .i64 (f i))) (hm : m ≤ 1048576) (hx : ∃ i, i < m ∧ f i = x) :
    Calls Try.prog 52 #[.slice ao m cap, .int .i64 x] w fun e w' => e = .returned (.bool true) ∧ w' = w := by
  refine calls_of_k fun R hR => ?_
  have HF := hide hf
  have HX := hide hx
  clear hf hx
  go_enter Try.func52, Try.ntmps52
  go_wp2
  go_loop [5] (fun i => ∃ k : Nat, k ≤ m ∧ i = .int .i64 k ∧ ∀ j, j < k → f j ≠ x) (fun i => m - (intOf i).toNat)
  case atStart => exact ⟨0, Nat.zero_le _, rfl, fun j hj => by omega⟩
  case round =>
    obtain ⟨k, hk, rfl, hall⟩ := hrel
    have HA := hide hall
    clear hall
    by_cases hlt : k < m
    · obtain ⟨b, off, rfl, hcell⟩ := HF.out k hlt
      by_cases x0 : f k = x
      · have hb : (f k == (x : Int)) = true := by simp [x0]
        clear x0
        go_wp2
        exact hR.out _ _ ⟨rfl, rfl⟩
      have hb : (f k == (x : Int)) = false := by simp [x0]
      have X0 := hide x0
      clear x0
      go_wp2
      go_round
      case rel => exact ⟨k + 1, by omega, by go_num, fun j hj => by
        by_cases e : j = k
        · subst e; exact X0.out
        · exact HA.out j (by omega)⟩
      case measure => simp [intOf]; omega
    · exfalso
      obtain ⟨i, hi, e⟩ := HX.out
      exact HA.out i (by omega) e

/-- what a round did, told by each job's part: 0 kept, 1 gave, 2 took -/
structure Told (n lv : Nat) (a : Nat → Int) (d : Int) (x : Nat → Nat) (OF CF UF DF : Nat → Nat → Nat) (m1 m3 : Nat) (f1 f3 : Nat → Int) (r : Nat → Nat) : Prop where
  ab : ∀ j, j < n → (a j).natAbs ≤ 32768
  db : d.natAbs ≤ 32768
  d0 : d ≠ 0
  nn : ∀ j k, j < n → k < lv → NN (CF j k)
  part : ∀ j, j < n → (r j = 0 ∧ x j = fI (a j) ∧ ∀ k, k < lv → CF j k = OF j k) ∨ (r j = 1 ∧ x j = fI (a j - d) ∧ (∀ k, k < lv → CF j k = DF j k) ∧ ∃ i, i < m3 ∧ f3 i = j) ∨ (r j = 2 ∧ x j = fI (a j + d) ∧ (∀ k, k < lv → CF j k = UF j k) ∧ ∃ i, i < m1 ∧ f1 i = j)
  same : cnt (fun j => r j == 1) n = cnt (fun j => r j == 2) n

set_option maxHeartbeats 1000000 in
set_option maxRecDepth 100000 in
theorem checkMoves_any (w : World) (xo : Option Addr) (n lv capx : Nat) (a : Nat → Int) (d : Int) (bO bC bX bU bD : Nat) (x : Nat → Nat) (OF CF UF DF : Nat → Nat → Nat) (o1 o3 : Option Addr) (m1 m3 c1 c3 : Nat) (f1 f3 : Nat → Int) (r : Nat → Nat)
    (hx : Rd w xo n (fun j => .int .i16 (a j))) (hO : FTab w bO n lv OF) (hC : FTab w bC n lv CF) (hX : w.rowIs bX 32 n (fun j => .float .f64 (x j))) (hU : FTab w bU n lv UF) (hD : FTab w bD n lv DF)
    (h1 : Rd w o1 m1 (fun i => .int .i64 (f1 i))) (h3 : Rd w o3 m3 (fun i => .int .i64 (f3 i))) (hn : n ≤ 1048576) (hlv : lv ≤ 1048576) (hm1 : m1 ≤ 1048576) (hm3 : m3 ≤ 1048576)
    (ht : Told n lv a d x OF CF UF DF m1 m3 f1 f3 r) :
    Calls Try.prog 46 #[.slice xo n capx, .int .i16 d, .slice (some ⟨bO, 0, none⟩) n n, .slice (some ⟨bC, 0, none⟩) n n, .slice (some ⟨bX, 0, none⟩) n n, .slice (some ⟨bU, 0, none⟩) n n, .slice (some ⟨bD, 0, none⟩) n n, .slice o1 m1 c1, .slice o3 m3 c3] w fun e w' =>
      e = .returned (.tuple #[.int .i64 (cnt (fun j => r j == 1) n : Nat), .bool true]) ∧ ∃ m, w' = w.drewN m := by
  refine calls_of_k fun R hR => ?_
  have HX := hide hx
  have HO := hide hO
  have HC := hide hC
  have HAL := hide hX
  have HU := hide hU
  have HD := hide hD
  have H1 := hide h1
  have H3 := hide h3
  have HT := hide ht
  clear hx hO hC hX hU hD h1 h3 ht
  go_enter Try.func46, Try.ntmps46
  go_wp2
  rw [flt_fI]
  go_loopg [21, 22, 23] n (fun g p t i wr => ∃ j m : Nat, j + g = n ∧ p = .int .i64 (cnt (fun j => r j == 1) j : Nat) ∧ t = .int .i64 (cnt (fun j => r j == 2) j : Nat) ∧ i = .int .i64 j ∧ wr = w.drewN m)
  case atStart => exact ⟨0, 0, by omega, rfl, rfl, rfl, rfl⟩
  case round =>
    obtain ⟨j, m, hj, rfl, rfl, rfl, hwr⟩ := hrel
    replace HX : Hid (Rd wr xo n (fun j => .int .i16 (a j))) := by rw [hwr]; exact HX.out
    replace HO : Hid (FTab wr bO n lv OF) := by rw [hwr]; exact ⟨HO.out.out, HO.out.row⟩
    replace HC : Hid (FTab wr bC n lv CF) := by rw [hwr]; exact ⟨HC.out.out, HC.out.row⟩
    replace HU : Hid (FTab wr bU n lv UF) := by rw [hwr]; exact ⟨HU.out.out, HU.out.row⟩
    replace HD : Hid (FTab wr bD n lv DF) := by rw [hwr]; exact ⟨HD.out.out, HD.out.row⟩
    replace HAL : Hid (wr.rowIs bX 32 n (fun j => .float .f64 (x j))) := by rw [hwr]; exact HAL.out
    replace H1 : Hid (Rd wr o1 m1 (fun i => .int .i64 (f1 i))) := by rw [hwr]; exact H1.out
    replace H3 : Hid (Rd wr o3 m3 (fun i => .int .i64 (f3 i))) := by rw [hwr]; exact H3.out
    have HW := hide hwr
    clear hwr
    by_cases hlt : j < n
    · obtain ⟨b, off, rfl, g1⟩ := HX.out j hlt
      have g2 := HAL.out.cell hlt
      have g3 := HC.out.out.cell hlt
      have ga := HT.out.ab j hlt
      have gd := HT.out.db
      have k1 := cnt_le (fun j => r j == 1) j
      have k2 := cnt_le (fun j => r j == 2) j
      have S1 := hide (cnt_succ (fun j => r j == 1) j)
      have S2 := hide (cnt_succ (fun j => r j == 2) j)
      rcases HT.out.part j hlt with ⟨hr, hv, hrow⟩ | ⟨hr, hv, hrow, hmem⟩ | ⟨hr, hv, hrow, hmem⟩
      · have g4 := HO.out.out.cell hlt
        have e1 : (FloatKind.f64.format.order (fI (a j)) (fI (a j)) == some .eq) = true := by rw [eqb_fI (by omega) (by omega)]; simp
        rw [hv] at g2
        have HQ : Hid (∀ q, Calls Try.prog 51 #[.slice (some ⟨bC + 1 + j, 0, none⟩) lv lv, .slice (some ⟨bO + 1 + j, 0, none⟩) lv lv] (wr.drewN q) fun e w' => e = .returned (.bool true) ∧ ∃ m, w' = (wr.drewN q).drewN m) := fun q => rowEq_any (wr.drewN q) _ _ lv _ _ (HC.out.row j hlt) (HO.out.row j hlt) hlv hrow (fun k hk => HT.out.nn j k hlt hk)
        simp only [hr] at S1 S2
        clear hv hr hrow
        have E := flt_fI (a j)
        go_wp2
        go_quiet ((go_at_call 51; exact Calls.quiet_of (HQ.out _)))
        go_wp2
        go_roundg (n - (j + 1))
        case measure => omega
        case rel => exact ⟨j + 1, _, by omega, int_eq (by rw [S1.out]; simp), int_eq (by rw [S2.out]; simp), by go_num, by rw [HW.out, World.drewN_drewN]⟩
      · have g4 := HD.out.out.cell hlt
        have d0 := HT.out.d0
        have e1 : (FloatKind.f64.format.order (fI (a j - d)) (fI (a j)) == some .eq) = false := by rw [eqb_fI (by omega) (by omega)]; simp; omega
        have e2 : (FloatKind.f64.format.order (fI (a j - d)) (fI (a j - d)) == some .eq) = true := by rw [eqb_fI (by omega) (by omega)]; simp
        have q2 := fun w => run_sub w _ _ _ (sub_fI (a := a j) (b := d) (by omega) (by omega))
        rw [hv] at g2
        have HQ : Hid (∀ q, Calls Try.prog 51 #[.slice (some ⟨bC + 1 + j, 0, none⟩) lv lv, .slice (some ⟨bD + 1 + j, 0, none⟩) lv lv] (wr.drewN q) fun e w' => e = .returned (.bool true) ∧ ∃ m, w' = (wr.drewN q).drewN m) := fun q => rowEq_any (wr.drewN q) _ _ lv _ _ (HC.out.row j hlt) (HD.out.row j hlt) hlv hrow (fun k hk => HT.out.nn j k hlt hk)
        have HM : Hid (∀ q, Calls Try.prog 52 #[.slice o3 m3 c3, .int .i64 j] (wr.drewN q) fun e w' => e = .returned (.bool true) ∧ w' = wr.drewN q) := fun q => has_any (wr.drewN q) _ m3 _ j f3 H3.out hm3 hmem
        simp only [hr] at S1 S2
        clear hv hr hrow hmem d0
        have E := flt_fI (a j)
        go_wp2
        go_quiet (first | (go_at_call 51; exact Calls.quiet_of (HQ.out _)) | (go_at_call 52; exact Calls.quiet_of_same (HM.out _)))
        go_wp2
        go_roundg (n - (j + 1))
        case measure => omega
        case rel => exact ⟨j + 1, _, by omega, int_eq (by rw [S1.out]; simp), int_eq (by rw [S2.out]; simp), by go_num, by rw [HW.out, World.drewN_drewN]⟩
      · have g4 := HU.out.out.cell hlt
        have d0 := HT.out.d0
        have e1 : (FloatKind.f64.format.order (fI (a j + d)) (fI (a j)) == some .eq) = false := by rw [eqb_fI (by omega) (by omega)]; simp; omega
        have e2 : (FloatKind.f64.format.order (fI (a j + d)) (fI (a j + d)) == some .eq) = true := by rw [eqb_fI (by omega) (by omega)]; simp
        have q2 := fun w => run_sub w _ _ _ (sub_fI (a := a j) (b := d) (by omega) (by omega))
        have e3 : (FloatKind.f64.format.order (fI (a j + d)) (fI (a j - d)) == some .eq) = false := by rw [eqb_fI (by omega) (by omega)]; simp; omega
        have q3 := fun w => run_add w _ _ _ (add_fI (a := a j) (b := d) (by omega) (by omega))
        rw [hv] at g2
        have HQ : Hid (∀ q, Calls Try.prog 51 #[.slice (some ⟨bC + 1 + j, 0, none⟩) lv lv, .slice (some ⟨bU + 1 + j, 0, none⟩) lv lv] (wr.drewN q) fun e w' => e = .returned (.bool true) ∧ ∃ m, w' = (wr.drewN q).drewN m) := fun q => rowEq_any (wr.drewN q) _ _ lv _ _ (HC.out.row j hlt) (HU.out.row j hlt) hlv hrow (fun k hk => HT.out.nn j k hlt hk)
        have HM : Hid (∀ q, Calls Try.prog 52 #[.slice o1 m1 c1, .int .i64 j] (wr.drewN q) fun e w' => e = .returned (.bool true) ∧ w' = wr.drewN q) := fun q => has_any (wr.drewN q) _ m1 _ j f1 H1.out hm1 hmem
        simp only [hr] at S1 S2
        clear hv hr hrow hmem d0
        have E := flt_fI (a j)
        go_wp2
        go_quiet (first | (go_at_call 51; exact Calls.quiet_of (HQ.out _)) | (go_at_call 52; exact Calls.quiet_of_same (HM.out _)))
        go_wp2
        go_roundg (n - (j + 1))
        case measure => omega
        case rel => exact ⟨j + 1, _, by omega, int_eq (by rw [S1.out]; simp), int_eq (by rw [S2.out]; simp), by go_num, by rw [HW.out, World.drewN_drewN]⟩
    · have e : j = n := by omega
      subst e
      have hs : (((cnt (fun j => r j == 1) j : Nat) : Int) != ((cnt (fun j => r j == 2) j : Nat) : Int)) = false := by rw [HT.out.same]; simp
      go_wp2
      exact hR.out _ _ ⟨rfl, _, HW.out⟩

end Go.Proofs.Qxb6000633a
