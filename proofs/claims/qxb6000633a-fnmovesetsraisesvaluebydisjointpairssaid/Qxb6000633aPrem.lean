/-
  Contracts of the premises.
-/
import Derived.Test.Qxb6000633aBase
namespace Go.Proofs.Qxb6000633a
open Go.RowKit

set_option maxHeartbeats 1000000 in
theorem pairPremise_any (w : World) (ao bo co : Option Addr) (n n2 n3 cap1 cap2 cap3 : Nat) (A1 A2 A3 : Nat → Option Addr) (L1 L2 L3 C1 C2 C3 : Nat → Nat) (M U D : Nat → Nat → Int)
    (hM : Codes w ao n A1 L1 C1 M) (hU : Codes w bo n2 A2 L2 C2 U) (hD : Codes w co n3 A3 L3 C3 D)
    (hn : n ≤ 1048576) (hl : ∀ j, j < n → L1 j ≤ 1048576) (f t : Int) :
    Calls Try.prog 11 #[.slice ao n cap1, .slice bo n2 cap2, .slice co n3 cap3, .int .i64 f, .int .i64 t] w fun e w' =>
      ∃ b : Bool, e = .returned (.bool b) ∧ (b = true → n2 = n ∧ n3 = n ∧ 0 ≤ f ∧ f < n ∧ 0 ≤ t ∧ t < n ∧ f ≠ t ∧ Shaped n (if n = 0 then 0 else L1 0) L1 L2 L3 M U D) ∧ w' = w := by
  refine calls_of_k fun R hR => ?_
  obtain ⟨lv, hlv⟩ : ∃ lv, lv = (if n = 0 then 0 else L1 0) := ⟨_, rfl⟩
  have hlvb : lv ≤ 1048576 := by
    rw [hlv]; split
    · omega
    · exact hl 0 (by omega)
  have hl13 := levels_any w ao n cap1 A1 L1 C1 M hM
  have hs1 := shape_any w ao n cap1 A1 L1 C1 M hM n lv (by omega)
  have hs2 := shape_any w bo n2 cap2 A2 L2 C2 U hU n lv (by omega)
  have hs3 := shape_any w co n3 cap3 A3 L3 C3 D hD n lv (by omega)
  rw [← hlv] at hl13 hR
  have G13 := hide hl13
  have S1 := hide hs1
  have S2 := hide hs2
  have S3 := hide hs3
  clear hl13 hs1 hs2 hs3 hl hlv
  go_enter Try.func11, Try.ntmps11
  go_wp2_with fail
  refine G13.out.mono ?_
  rintro e w' ⟨rfl, rfl⟩
  go_wp2_with fail
  refine S1.out.mono ?_
  rintro e w' ⟨b1, rfl, h1, rfl⟩
  cases b1
  · go_wp2_with fail
    exact hR.out _ _ ⟨false, rfl, fun h => (by cases h), rfl⟩
  go_wp2_with fail
  refine S2.out.mono ?_
  rintro e w' ⟨b2, rfl, h2, rfl⟩
  cases b2
  · go_wp2_with fail
    exact hR.out _ _ ⟨false, rfl, fun h => (by cases h), rfl⟩
  go_wp2_with fail
  refine S3.out.mono ?_
  rintro e w' ⟨b3, rfl, h3, rfl⟩
  cases b3
  · go_wp2_with fail
    exact hR.out _ _ ⟨false, rfl, fun h => (by cases h), rfl⟩
  obtain ⟨_, q1⟩ := h1 (by first | rfl | trivial)
  obtain ⟨e2, q2⟩ := h2 (by first | rfl | trivial)
  obtain ⟨e3, q3⟩ := h3 (by first | rfl | trivial)
  have e2' := e2.symm
  have e3' := e3.symm
  subst e2' e3'
  have Q1 := hide q1
  have Q2 := hide q2
  have Q3 := hide q3
  clear h1 h2 h3 q1 q2 q3 S1 S2 S3 G13 e2 e3
  by_cases hf0 : f < 0
  · go_wp2_with fail
    exact hR.out _ _ ⟨false, rfl, fun h => (by cases h), rfl⟩
  by_cases hf1 : (n : Int) ≤ f
  · go_wp2_with fail
    exact hR.out _ _ ⟨false, rfl, fun h => (by cases h), rfl⟩
  by_cases ht0 : t < 0
  · go_wp2_with fail
    exact hR.out _ _ ⟨false, rfl, fun h => (by cases h), rfl⟩
  by_cases ht1 : (n : Int) ≤ t
  · go_wp2_with fail
    exact hR.out _ _ ⟨false, rfl, fun h => (by cases h), rfl⟩
  by_cases hft : f = t
  · have hb : (f == t) = true := by simp [hft]
    clear hft
    go_wp2_with fail
    exact hR.out _ _ ⟨false, rfl, fun h => (by cases h), rfl⟩
  have hb : (f == t) = false := by simp [hft]
  go_wp2_with fail
  refine (halves_any _ ao bo co n cap1 cap2 cap3 lv A1 A2 A3 L1 L2 L3 C1 C2 C3 M U D hM hU hD Q1.out Q2.out Q3.out hn hlvb).mono ?_
  rintro e w' ⟨b4, rfl, h4, rfl⟩
  go_wp2_with fail
  exact hR.out _ _ ⟨b4, rfl, fun h => ⟨by first | rfl | trivial, by first | rfl | trivial, by omega, by omega, by omega, by omega, hft, Q1.out, Q2.out, Q3.out, h4 h⟩, rfl⟩

end Go.Proofs.Qxb6000633a
