/-
  Contract of the bound on total length laid by program.
-/
import Derived.Test.Qxb6000633aBase
namespace Go.Proofs.Qxb6000633a
open Go.RowKit

set_option maxHeartbeats 2000000 in
theorem bytes9_any (w : World) (ao bo co : Option Addr) (n n2 n3 cap1 cap2 cap3 : Nat) (A1 A2 A3 : Nat → Option Addr) (L1 L2 L3 C1 C2 C3 : Nat → Nat) (M U D : Nat → Nat → Int)
    (hM : Codes w ao n A1 L1 C1 M) (hU : Codes w bo n2 A2 L2 C2 U) (hD : Codes w co n3 A3 L3 C3 D) (f t : Int) :
    Calls Try.prog 9 #[.slice ao n cap1, .slice bo n2 cap2, .slice co n3 cap3, .int .i64 f, .int .i64 t] w fun e w' =>
      ∃ b : Bool, e = .returned (.bool b) ∧ (b = true → (n ≤ 1048576 ∧ ∀ j, j < n → L1 j ≤ 1048576) ∧ (n2 ≤ 1048576 ∧ ∀ j, j < n2 → L2 j ≤ 1048576) ∧ (n3 ≤ 1048576 ∧ ∀ j, j < n3 → L3 j ≤ 1048576)) ∧ w' = w := by
  refine calls_of_k fun R hR => ?_
  have hn1 := hM.n63
  have hn2 := hU.n63
  have hn3 := hD.n63
  by_cases g1 : 1048576 < (n : Int)
  · go_enter Try.func9, Try.ntmps9
    go_wp2
    exact hR.out _ _ ⟨false, rfl, fun h => (by cases h), rfl⟩
  go_enter Try.func9, Try.ntmps9
  go_wp2
  go_loop [11, 12] (fun t i => ∃ k : Nat, ∃ t' : Int, k ≤ n ∧ i = .int .i64 k ∧ t = .int .i64 t' ∧ 0 ≤ t' ∧ t' ≤ 1048576 ∧ ∀ j, j < k → L1 j ≤ 1048576) (fun _ i => n - (intOf i).toNat)
  case atStart => exact ⟨0, _, Nat.zero_le _, rfl, rfl, by omega, by omega, fun j hj => by omega⟩
  case round =>
    obtain ⟨k, t', hk, rfl, rfl, h0, h1, hall⟩ := hrel
    have HA := hide hall
    clear hall
    by_cases hlt : k < n
    · obtain ⟨b, off, rfl, hcell⟩ := hM.out k hlt
      have hl := hM.l63 k hlt
      go_wp2
      · exact hR.out _ _ ⟨false, rfl, fun h => (by cases h), rfl⟩
      · exact hR.out _ _ ⟨false, rfl, fun h => (by cases h), rfl⟩
      · go_round
        case rel => exact ⟨k + 1, _, by omega, by go_num, rfl, by omega, by omega, fun j hj => by
          by_cases e : j = k
          · subst e; omega
          · exact HA.out j (by omega)⟩
        case measure => simp [intOf]; omega
    · have HA1 : Hid (∀ j, j < n → L1 j ≤ 1048576) := fun j hj => HA.out j (by omega)
      clear HA
      by_cases g2 : 1048576 < (n2 : Int)
      · go_wp2
        exact hR.out _ _ ⟨false, rfl, fun h => (by cases h), rfl⟩
      by_cases g2' : 1048576 < t' + (n2 : Int)
      · go_wp2
        exact hR.out _ _ ⟨false, rfl, fun h => (by cases h), rfl⟩
      go_wp2
      go_loop [11, 13] (fun t i => ∃ k : Nat, ∃ t' : Int, k ≤ n2 ∧ i = .int .i64 k ∧ t = .int .i64 t' ∧ 0 ≤ t' ∧ t' ≤ 1048576 ∧ ∀ j, j < k → L2 j ≤ 1048576) (fun _ i => n2 - (intOf i).toNat)
      case atStart => exact ⟨0, _, Nat.zero_le _, rfl, rfl, by omega, by omega, fun j hj => by omega⟩
      case round =>
        obtain ⟨k, t', hk, rfl, rfl, h0, h1, hall⟩ := hrel
        have HA := hide hall
        clear hall
        by_cases hlt : k < n2
        · obtain ⟨b, off, rfl, hcell⟩ := hU.out k hlt
          have hl := hU.l63 k hlt
          go_wp2
          · exact hR.out _ _ ⟨false, rfl, fun h => (by cases h), rfl⟩
          · exact hR.out _ _ ⟨false, rfl, fun h => (by cases h), rfl⟩
          · go_round
            case rel => exact ⟨k + 1, _, by omega, by go_num, rfl, by omega, by omega, fun j hj => by
              by_cases e : j = k
              · subst e; omega
              · exact HA.out j (by omega)⟩
            case measure => simp [intOf]; omega
        · have HA2 : Hid (∀ j, j < n2 → L2 j ≤ 1048576) := fun j hj => HA.out j (by omega)
          clear HA
          by_cases g3 : 1048576 < (n3 : Int)
          · go_wp2
            exact hR.out _ _ ⟨false, rfl, fun h => (by cases h), rfl⟩
          by_cases g3' : 1048576 < t' + (n3 : Int)
          · go_wp2
            exact hR.out _ _ ⟨false, rfl, fun h => (by cases h), rfl⟩
          go_wp2
          go_loop [11, 14] (fun t i => ∃ k : Nat, ∃ t' : Int, k ≤ n3 ∧ i = .int .i64 k ∧ t = .int .i64 t' ∧ 0 ≤ t' ∧ t' ≤ 1048576 ∧ ∀ j, j < k → L3 j ≤ 1048576) (fun _ i => n3 - (intOf i).toNat)
          case atStart => exact ⟨0, _, Nat.zero_le _, rfl, rfl, by omega, by omega, fun j hj => by omega⟩
          case round =>
            obtain ⟨k, t', hk, rfl, rfl, h0, h1, hall⟩ := hrel
            have HA := hide hall
            clear hall
            by_cases hlt : k < n3
            · obtain ⟨b, off, rfl, hcell⟩ := hD.out k hlt
              have hl := hD.l63 k hlt
              go_wp2
              · exact hR.out _ _ ⟨false, rfl, fun h => (by cases h), rfl⟩
              · exact hR.out _ _ ⟨false, rfl, fun h => (by cases h), rfl⟩
              · go_round
                case rel => exact ⟨k + 1, _, by omega, by go_num, rfl, by omega, by omega, fun j hj => by
                  by_cases e : j = k
                  · subst e; omega
                  · exact HA.out j (by omega)⟩
                case measure => simp [intOf]; omega
            · have HA3 : Hid (∀ j, j < n3 → L3 j ≤ 1048576) := fun j hj => HA.out j (by omega)
              clear HA
              go_wp2
              exact hR.out _ _ ⟨true, rfl, fun _ => ⟨⟨by omega, HA1.out⟩, ⟨by omega, HA2.out⟩, ⟨by omega, HA3.out⟩⟩, rfl⟩

end Go.Proofs.Qxb6000633a
