/-
  The premises of the two laws on a round.
-/
import Derived.Test.Qxb6000633aBase
namespace Go.Proofs.Qxb6000633a
open Go.RowKit

set_option maxHeartbeats 1000000 in
theorem jobsIn_any (w : World) (ao : Option Addr) (m cap n : Nat) (f : Nat → Int) (hf : Rd w ao m (fun i => .int .i64 (f i))) (hm : m ≤ 1048576) (_hn : n ≤ 1048576) :
    Calls Try.prog 36 #[.slice ao m cap, .int .i64 n] w fun e w' => ∃ b : Bool, e = .returned (.bool b) ∧ (b = true → ∀ i, i < m → 0 ≤ f i ∧ f i < n) ∧ w' = w := by
  refine calls_of_k fun R hR => ?_
  have HF := hide hf
  clear hf
  go_enter Try.func36, Try.ntmps36
  go_wp2
  go_loop [5] (fun i => ∃ k : Nat, k ≤ m ∧ i = .int .i64 k ∧ ∀ j, j < k → 0 ≤ f j ∧ f j < n) (fun i => m - (intOf i).toNat)
  case atStart => exact ⟨0, Nat.zero_le _, rfl, fun j hj => by omega⟩
  case round =>
    obtain ⟨k, hk, rfl, hall⟩ := hrel
    have HA := hide hall
    clear hall
    by_cases hlt : k < m
    · obtain ⟨b, off, rfl, hcell⟩ := HF.out k hlt
      by_cases x0 : f k < 0
      · go_wp2
        exact hR.out _ _ ⟨false, rfl, fun h => (by cases h), rfl⟩
      by_cases x1 : (n : Int) ≤ f k
      · go_wp2
        exact hR.out _ _ ⟨false, rfl, fun h => (by cases h), rfl⟩
      go_wp2
      go_round
      case rel => exact ⟨k + 1, by omega, by go_num, fun j hj => by
        by_cases e : j = k
        · subst e; omega
        · exact HA.out j (by omega)⟩
      case measure => simp [intOf]; omega
    · go_wp2
      exact hR.out _ _ ⟨true, rfl, fun _ j hj => HA.out j (by omega), rfl⟩

/-- the shape of a climb's data -/
structure Formed (na n n2 n3 lv : Nat) (L1 L2 L3 : Nat → Nat) (m1 m2 m3 m4 : Nat) : Prop where
  n1 : n = na
  n2 : n2 = na
  n3 : n3 = na
  e1 : ∀ j, j < na → L1 j = lv
  e2 : ∀ j, j < na → L2 j = lv
  e3 : ∀ j, j < na → L3 j = lv
  g : m2 = m1
  l : m4 = m3
  gb : m1 ≤ 4096
  lb : m3 ≤ 4096

set_option maxHeartbeats 1000000 in
theorem climbShape_any (w : World) (xo ao bo co : Option Addr) (na n n2 n3 capx cap1 cap2 cap3 : Nat) (A1 A2 A3 : Nat → Option Addr) (L1 L2 L3 C1 C2 C3 : Nat → Nat) (M U D : Nat → Nat → Int)
    (hM : Codes w ao n A1 L1 C1 M) (hU : Codes w bo n2 A2 L2 C2 U) (hD : Codes w co n3 A3 L3 C3 D)
    (hna : na ≤ 1048576) (o1 o2 o3 o4 : Option Addr) (m1 m2 m3 m4 c1 c2 c3 c4 : Nat) (hm1 : m1 ≤ 1048576) (_hm2 : m2 ≤ 1048576) (hm3 : m3 ≤ 1048576) (_hm4 : m4 ≤ 1048576) :
    Calls Try.prog 32 #[.slice xo na capx, .slice ao n cap1, .slice bo n2 cap2, .slice co n3 cap3, .slice o1 m1 c1, .slice o2 m2 c2, .slice o3 m3 c3, .slice o4 m4 c4] w fun e w' =>
      ∃ b : Bool, e = .returned (.bool b) ∧ (b = true → Formed na n n2 n3 (if n = 0 then 0 else L1 0) L1 L2 L3 m1 m2 m3 m4) ∧ w' = w := by
  refine calls_of_k fun R hR => ?_
  obtain ⟨lv, hlv⟩ : ∃ lv, lv = (if n = 0 then 0 else L1 0) := ⟨_, rfl⟩
  have hl13 := levels_any w ao n cap1 A1 L1 C1 M hM
  rw [← hlv] at hl13 hR
  have S1 := hide (shape_any w ao n cap1 A1 L1 C1 M hM na lv (by omega))
  have S2 := hide (shape_any w bo n2 cap2 A2 L2 C2 U hU na lv (by omega))
  have S3 := hide (shape_any w co n3 cap3 A3 L3 C3 D hD na lv (by omega))
  have G13 := hide hl13
  clear hl13 hlv hM hU hD
  go_enter Try.func32, Try.ntmps32
  go_wp2_with fail
  refine G13.out.mono ?_
  rintro e w' ⟨rfl, rfl⟩
  go_wp2_with fail
  refine S1.out.mono ?_
  rintro e w' ⟨b1, rfl, h1, rfl⟩
  cases b1
  · go_wp2_with fail
    exact hR.out _ _ ⟨false, rfl, fun h => (by cases h), rfl⟩
  go_wp2_with fail
  refine S2.out.mono ?_
  rintro e w' ⟨b2, rfl, h2, rfl⟩
  cases b2
  · go_wp2_with fail
    exact hR.out _ _ ⟨false, rfl, fun h => (by cases h), rfl⟩
  go_wp2_with fail
  refine S3.out.mono ?_
  rintro e w' ⟨b3, rfl, h3, rfl⟩
  cases b3
  · go_wp2_with fail
    exact hR.out _ _ ⟨false, rfl, fun h => (by cases h), rfl⟩
  obtain ⟨e1, q1⟩ := h1 (by first | rfl | trivial)
  obtain ⟨e2, q2⟩ := h2 (by first | rfl | trivial)
  obtain ⟨e3, q3⟩ := h3 (by first | rfl | trivial)
  have E1 := hide e1
  have E2 := hide e2
  have E3 := hide e3
  have Q1 := hide q1
  have Q2 := hide q2
  have Q3 := hide q3
  clear h1 h2 h3 q1 q2 q3 S1 S2 S3 G13 e1 e2 e3
  by_cases x1 : m1 = m2
  · by_cases x2 : m3 = m4
    · have hb1 : (((m1 : Nat) : Int) != (m2 : Int)) = false := by simp; omega
      have hb2 : (((m3 : Nat) : Int) != (m4 : Int)) = false := by simp; omega
      have X1 := hide x1
      have X2 := hide x2
      clear x1 x2
      by_cases y1 : (m1 : Int) ≤ 4096
      · go_wp2_with fail
        exact hR.out _ _ ⟨decide ((m3 : Int) ≤ 4096), rfl, fun h => ⟨E1.out, E2.out, E3.out, fun j hj => Q1.out j (by rw [E1.out]; exact hj), fun j hj => Q2.out j (by rw [E2.out]; exact hj), fun j hj => Q3.out j (by rw [E3.out]; exact hj), X1.out.symm, X2.out.symm, by omega, by have := of_decide_eq_true h; omega⟩, rfl⟩
      · go_wp2_with fail
        exact hR.out _ _ ⟨false, rfl, fun h => (by cases h), rfl⟩
    · have hb1 : (((m1 : Nat) : Int) != (m2 : Int)) = false := by simp; omega
      have hb2 : (((m3 : Nat) : Int) != (m4 : Int)) = true := by simp; omega
      clear x1 x2
      go_wp2_with fail
      exact hR.out _ _ ⟨false, rfl, fun h => (by cases h), rfl⟩
  · have hb1 : (((m1 : Nat) : Int) != (m2 : Int)) = true := by simp; omega
    clear x1
    go_wp2_with fail
    exact hR.out _ _ ⟨false, rfl, fun h => (by cases h), rfl⟩

/-- the premise of a round -/
structure Raised (na lv : Nat) (M U D : Nat → Nat → Int) (d : Int) (m1 m3 : Nat) (f1 f3 : Nat → Int) : Prop where
  d : d ≠ 0
  g : ∀ i, i < m1 → 0 ≤ f1 i ∧ f1 i < na
  l : ∀ i, i < m3 → 0 ≤ f3 i ∧ f3 i < na
  few : ∀ k, k < lv → hv M k na + hv U k na + hv D k na ≤ 1000

set_option maxHeartbeats 1000000 in
theorem raisePremise_any (w : World) (xo ao bo co : Option Addr) (na n n2 n3 capx cap1 cap2 cap3 : Nat) (A1 A2 A3 : Nat → Option Addr) (L1 L2 L3 C1 C2 C3 : Nat → Nat) (M U D : Nat → Nat → Int)
    (hM : Codes w ao n A1 L1 C1 M) (hU : Codes w bo n2 A2 L2 C2 U) (hD : Codes w co n3 A3 L3 C3 D) (hl : ∀ j, j < n → L1 j ≤ 1048576)
    (hna : na ≤ 1048576) (d : Int) (o1 o2 o3 o4 : Option Addr) (m1 m2 m3 m4 c1 c2 c3 c4 : Nat) (hm1 : m1 ≤ 1048576) (hm2 : m2 ≤ 1048576) (hm3 : m3 ≤ 1048576) (hm4 : m4 ≤ 1048576)
    (f1 f3 : Nat → Int) (r1 : Rd w o1 m1 (fun i => .int .i64 (f1 i))) (r3 : Rd w o3 m3 (fun i => .int .i64 (f3 i))) :
    Calls Try.prog 28 #[.slice xo na capx, .slice ao n cap1, .slice bo n2 cap2, .slice co n3 cap3, .int .i16 d, .slice o1 m1 c1, .slice o2 m2 c2, .slice o3 m3 c3, .slice o4 m4 c4] w fun e w' =>
      ∃ b : Bool, e = .returned (.bool b) ∧ (b = true → Formed na n n2 n3 (if n = 0 then 0 else L1 0) L1 L2 L3 m1 m2 m3 m4 ∧ Raised na (if n = 0 then 0 else L1 0) M U D d m1 m3 f1 f3) ∧ w' = w := by
  refine calls_of_k fun R hR => ?_
  obtain ⟨lv, hlv⟩ : ∃ lv, lv = (if n = 0 then 0 else L1 0) := ⟨_, rfl⟩
  have hlvb : lv ≤ 1048576 := by
    rw [hlv]; split
    · omega
    · exact hl 0 (by omega)
  have hl13 := levels_any w ao n cap1 A1 L1 C1 M hM
  have hs := climbShape_any w xo ao bo co na n n2 n3 capx cap1 cap2 cap3 A1 A2 A3 L1 L2 L3 C1 C2 C3 M U D hM hU hD hna o1 o2 o3 o4 m1 m2 m3 m4 c1 c2 c3 c4 hm1 hm2 hm3 hm4
  rw [← hlv] at hl13 hs hR
  have J1 := hide (jobsIn_any w o1 m1 c1 na f1 r1 hm1 hna)
  have J3 := hide (jobsIn_any w o3 m3 c3 na f3 r3 hm3 hna)
  have G13 := hide hl13
  have HS := hide hs
  clear hl13 hlv hs r1 r3 hl
  go_enter Try.func28, Try.ntmps28
  go_wp2_with fail
  refine HS.out.mono ?_
  rintro e w' ⟨b1, rfl, h1, rfl⟩
  cases b1
  · go_wp2_with fail
    exact hR.out _ _ ⟨false, rfl, fun h => (by cases h), rfl⟩
  have hf := h1 (by first | rfl | trivial)
  have e1 := hf.n1.symm
  subst e1
  have e2 := hf.n2.symm
  have e3 := hf.n3.symm
  subst e2 e3
  have HFO := hide hf
  clear h1 hf HS
  by_cases hd : d = 0
  · have hdb : (d == 0) = true := by simp [hd]
    clear hd
    go_wp2_with fail
    exact hR.out _ _ ⟨false, rfl, fun h => (by cases h), rfl⟩
  have hdb : (d == 0) = false := by simp [hd]
  have HD0 := hide hd
  clear hd
  go_wp2_with fail
  refine J1.out.mono ?_
  rintro e w' ⟨b1, rfl, h1, rfl⟩
  cases b1
  · go_wp2_with fail
    exact hR.out _ _ ⟨false, rfl, fun h => (by cases h), rfl⟩
  have q1 := hide (h1 (by first | rfl | trivial))
  clear h1
  go_wp2_with fail
  refine J3.out.mono ?_
  rintro e w' ⟨b1, rfl, h1, rfl⟩
  cases b1
  · go_wp2_with fail
    exact hR.out _ _ ⟨false, rfl, fun h => (by cases h), rfl⟩
  have q3 := hide (h1 (by first | rfl | trivial))
  clear h1
  go_wp2_with fail
  refine G13.out.mono ?_
  rintro e w' ⟨rfl, rfl⟩
  go_wp2_with fail
  refine (halves_any _ ao bo co _ cap1 cap2 cap3 lv A1 A2 A3 L1 L2 L3 C1 C2 C3 M U D hM hU hD HFO.out.e1 HFO.out.e2 HFO.out.e3 hna hlvb).mono ?_
  rintro e w' ⟨b1, rfl, h1, rfl⟩
  go_wp2_with fail
  exact hR.out _ _ ⟨b1, rfl, fun h => ⟨HFO.out, HD0.out, q1.out, q3.out, h1 h⟩, rfl⟩

set_option maxHeartbeats 1000000 in
theorem climbBytes_any (w : World) (xo ao bo co : Option Addr) (na n n2 n3 capx cap1 cap2 cap3 : Nat) (A1 A2 A3 : Nat → Option Addr) (L1 L2 L3 C1 C2 C3 : Nat → Nat) (M U D : Nat → Nat → Int)
    (hM : Codes w ao n A1 L1 C1 M) (hU : Codes w bo n2 A2 L2 C2 U) (hD : Codes w co n3 A3 L3 C3 D)
    (hna : na ≤ 1048576) (o1 o2 o3 o4 : Option Addr) (m1 m2 m3 m4 c1 c2 c3 c4 : Nat) (hm1 : m1 ≤ 1048576) (hm2 : m2 ≤ 1048576) (hm3 : m3 ≤ 1048576) (hm4 : m4 ≤ 1048576) :
    Calls Try.prog 27 #[.slice xo na capx, .slice ao n cap1, .slice bo n2 cap2, .slice co n3 cap3, .slice o1 m1 c1, .slice o2 m2 c2, .slice o3 m3 c3, .slice o4 m4 c4] w fun e w' =>
      ∃ r : Int, e = .returned (.int .i64 r) ∧ w' = w := by
  refine calls_of_k fun R hR => ?_
  have K1 := hide (codeBytes_any w ao n cap1 A1 L1 C1 M hM)
  have K2 := hide (codeBytes_any w bo n2 cap2 A2 L2 C2 U hU)
  have K3 := hide (codeBytes_any w co n3 cap3 A3 L3 C3 D hD)
  clear hM hU hD
  go_enter Try.func27, Try.ntmps27
  go_wp2_with fail
  refine K1.out.mono ?_
  rintro e w' ⟨x1, rfl, _, _, rfl⟩
  go_wp2_with fail
  refine K2.out.mono ?_
  rintro e w' ⟨x2, rfl, _, _, rfl⟩
  go_wp2_with fail
  refine K3.out.mono ?_
  rintro e w' ⟨x3, rfl, _, _, rfl⟩
  go_wp2_with fail
  exact hR.out _ _ ⟨_, rfl, rfl⟩

end Go.Proofs.Qxb6000633a
