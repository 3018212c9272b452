/-
  Contract of the bounds on total length laid by program, of the two laws on a round.
-/
import Derived.Test.Qxb6000633aBase
namespace Go.Proofs.Qxb6000633a
open Go.RowKit

/-- what the bound on total length tells -/
structure Short (na n n2 n3 : Nat) (L1 L2 L3 : Nat → Nat) (g1 g2 g3 g4 : Nat) : Prop where
  a : na ≤ 1048576
  t1 : n ≤ 1048576 ∧ ∀ j, j < n → L1 j ≤ 1048576
  t2 : n2 ≤ 1048576 ∧ ∀ j, j < n2 → L2 j ≤ 1048576
  t3 : n3 ≤ 1048576 ∧ ∀ j, j < n3 → L3 j ≤ 1048576
  g1 : g1 ≤ 1048576
  g2 : g2 ≤ 1048576
  g3 : g3 ≤ 1048576
  g4 : g4 ≤ 1048576

set_option maxHeartbeats 4000000 in
set_option maxRecDepth 100000 in
theorem bytes26_any (w : World) (xo ao bo co : Option Addr) (na n n2 n3 capx cap1 cap2 cap3 : Nat) (A1 A2 A3 : Nat → Option Addr) (L1 L2 L3 C1 C2 C3 : Nat → Nat) (M U D : Nat → Nat → Int)
    (hM : Codes w ao n A1 L1 C1 M) (hU : Codes w bo n2 A2 L2 C2 U) (hD : Codes w co n3 A3 L3 C3 D) (d : Int) (o1 o2 o3 o4 : Option Addr) (m1 m2 m3 m4 c1 c2 c3 c4 : Nat)
    (hna : na ≤ 9223372036854775807) (hm1 : m1 ≤ 9223372036854775807) (hm2 : m2 ≤ 9223372036854775807) (hm3 : m3 ≤ 9223372036854775807) (hm4 : m4 ≤ 9223372036854775807) :
    Calls Try.prog 26 #[.slice xo na capx, .slice ao n cap1, .slice bo n2 cap2, .slice co n3 cap3, .int .i16 d, .slice o1 m1 c1, .slice o2 m2 c2, .slice o3 m3 c3, .slice o4 m4 c4] w fun e w' =>
      ∃ b : Bool, e = .returned (.bool b) ∧ (b = true → Short na n n2 n3 L1 L2 L3 m1 m2 m3 m4) ∧ w' = w := by
  refine calls_of_k fun R hR => ?_
  have hn1 := hM.n63
  have hn2 := hU.n63
  have hn3 := hD.n63
  by_cases g0 : 1048576 < (na : Int)
  · go_enter Try.func26, Try.ntmps26
    go_wp2
    exact hR.out _ _ ⟨false, rfl, fun h => (by cases h), rfl⟩
  by_cases g1 : 1048576 < (n : Int)
  · go_enter Try.func26, Try.ntmps26
    go_wp2
    exact hR.out _ _ ⟨false, rfl, fun h => (by cases h), rfl⟩
  by_cases g1' : 1048576 < (na : Int) + (n : Int)
  · go_enter Try.func26, Try.ntmps26
    go_wp2
    exact hR.out _ _ ⟨false, rfl, fun h => (by cases h), rfl⟩
  go_enter Try.func26, Try.ntmps26
  go_wp2
  go_loop [19, 20] (fun t i => ∃ k : Nat, ∃ t' : Int, k ≤ n ∧ i = .int .i64 k ∧ t = .int .i64 t' ∧ 0 ≤ t' ∧ t' ≤ 1048576 ∧ ∀ j, j < k → L1 j ≤ 1048576) (fun _ i => n - (intOf i).toNat)
  case atStart => exact ⟨0, _, Nat.zero_le _, rfl, rfl, by omega, by omega, fun j hj => by omega⟩
  case round =>
    obtain ⟨k, t', hk, rfl, rfl, h0, h1, hall⟩ := hrel
    have HA := hide hall
    clear hall
    by_cases hlt : k < n
    · obtain ⟨b, off, rfl, hcell⟩ := hM.out k hlt
      have hl := hM.l63 k hlt
      go_wp2
      · exact hR.out _ _ ⟨false, rfl, fun h => (by cases h), rfl⟩
      · exact hR.out _ _ ⟨false, rfl, fun h => (by cases h), rfl⟩
      · go_round
        case rel => exact ⟨k + 1, _, by omega, by go_num, rfl, by omega, by omega, fun j hj => by
          by_cases e : j = k
          · subst e; omega
          · exact HA.out j (by omega)⟩
        case measure => simp [intOf]; omega
    · have HA1 : Hid (∀ j, j < n → L1 j ≤ 1048576) := fun j hj => HA.out j (by omega)
      clear HA
      by_cases g2 : 1048576 < (n2 : Int)
      · go_wp2
        exact hR.out _ _ ⟨false, rfl, fun h => (by cases h), rfl⟩
      by_cases g2' : 1048576 < t' + (n2 : Int)
      · go_wp2
        exact hR.out _ _ ⟨false, rfl, fun h => (by cases h), rfl⟩
      go_wp2
      go_loop [19, 21] (fun t i => ∃ k : Nat, ∃ t' : Int, k ≤ n2 ∧ i = .int .i64 k ∧ t = .int .i64 t' ∧ 0 ≤ t' ∧ t' ≤ 1048576 ∧ ∀ j, j < k → L2 j ≤ 1048576) (fun _ i => n2 - (intOf i).toNat)
      case atStart => exact ⟨0, _, Nat.zero_le _, rfl, rfl, by omega, by omega, fun j hj => by omega⟩
      case round =>
        obtain ⟨k, t', hk, rfl, rfl, h0, h1, hall⟩ := hrel
        have HA := hide hall
        clear hall
        by_cases hlt : k < n2
        · obtain ⟨b, off, rfl, hcell⟩ := hU.out k hlt
          have hl := hU.l63 k hlt
          go_wp2
          · exact hR.out _ _ ⟨false, rfl, fun h => (by cases h), rfl⟩
          · exact hR.out _ _ ⟨false, rfl, fun h => (by cases h), rfl⟩
          · go_round
            case rel => exact ⟨k + 1, _, by omega, by go_num, rfl, by omega, by omega, fun j hj => by
              by_cases e : j = k
              · subst e; omega
              · exact HA.out j (by omega)⟩
            case measure => simp [intOf]; omega
        · have HA2 : Hid (∀ j, j < n2 → L2 j ≤ 1048576) := fun j hj => HA.out j (by omega)
          clear HA
          by_cases g3 : 1048576 < (n3 : Int)
          · go_wp2
            exact hR.out _ _ ⟨false, rfl, fun h => (by cases h), rfl⟩
          by_cases g3' : 1048576 < t' + (n3 : Int)
          · go_wp2
            exact hR.out _ _ ⟨false, rfl, fun h => (by cases h), rfl⟩
          go_wp2
          go_loop [19, 22] (fun t i => ∃ k : Nat, ∃ t' : Int, k ≤ n3 ∧ i = .int .i64 k ∧ t = .int .i64 t' ∧ 0 ≤ t' ∧ t' ≤ 1048576 ∧ ∀ j, j < k → L3 j ≤ 1048576) (fun _ i => n3 - (intOf i).toNat)
          case atStart => exact ⟨0, _, Nat.zero_le _, rfl, rfl, by omega, by omega, fun j hj => by omega⟩
          case round =>
            obtain ⟨k, t', hk, rfl, rfl, h0, h1, hall⟩ := hrel
            have HA := hide hall
            clear hall
            by_cases hlt : k < n3
            · obtain ⟨b, off, rfl, hcell⟩ := hD.out k hlt
              have hl := hD.l63 k hlt
              go_wp2
              · exact hR.out _ _ ⟨false, rfl, fun h => (by cases h), rfl⟩
              · exact hR.out _ _ ⟨false, rfl, fun h => (by cases h), rfl⟩
              · go_round
                case rel => exact ⟨k + 1, _, by omega, by go_num, rfl, by omega, by omega, fun j hj => by
                  by_cases e : j = k
                  · subst e; omega
                  · exact HA.out j (by omega)⟩
                case measure => simp [intOf]; omega
            · have HA3 : Hid (∀ j, j < n3 → L3 j ≤ 1048576) := fun j hj => HA.out j (by omega)
              clear HA
              by_cases x1 : 1048576 < (m1 : Int)
              · go_wp2
                exact hR.out _ _ ⟨false, rfl, fun h => (by cases h), rfl⟩
              by_cases x1' : 1048576 < t' + (m1 : Int)
              · go_wp2
                exact hR.out _ _ ⟨false, rfl, fun h => (by cases h), rfl⟩
              by_cases x2 : 1048576 < (m2 : Int)
              · go_wp2
                exact hR.out _ _ ⟨false, rfl, fun h => (by cases h), rfl⟩
              by_cases x2' : 1048576 < t' + (m1 : Int) + (m2 : Int)
              · go_wp2
                exact hR.out _ _ ⟨false, rfl, fun h => (by cases h), rfl⟩
              by_cases x3 : 1048576 < (m3 : Int)
              · go_wp2
                exact hR.out _ _ ⟨false, rfl, fun h => (by cases h), rfl⟩
              by_cases x3' : 1048576 < t' + (m1 : Int) + (m2 : Int) + (m3 : Int)
              · go_wp2
                exact hR.out _ _ ⟨false, rfl, fun h => (by cases h), rfl⟩
              by_cases x4 : 1048576 < (m4 : Int)
              · go_wp2
                exact hR.out _ _ ⟨false, rfl, fun h => (by cases h), rfl⟩
              by_cases x4' : 1048576 < t' + (m1 : Int) + (m2 : Int) + (m3 : Int) + (m4 : Int)
              · go_wp2
                exact hR.out _ _ ⟨false, rfl, fun h => (by cases h), rfl⟩
              go_wp2
              exact hR.out _ _ ⟨true, rfl, fun _ => ⟨by omega, ⟨by omega, HA1.out⟩, ⟨by omega, HA2.out⟩, ⟨by omega, HA3.out⟩, by omega, by omega, by omega, by omega⟩, rfl⟩

set_option maxHeartbeats 4000000 in
set_option maxRecDepth 100000 in
theorem bytes34_any (w : World) (xo ao bo co : Option Addr) (na n n2 n3 capx cap1 cap2 cap3 : Nat) (A1 A2 A3 : Nat → Option Addr) (L1 L2 L3 C1 C2 C3 : Nat → Nat) (M U D : Nat → Nat → Int)
    (hM : Codes w ao n A1 L1 C1 M) (hU : Codes w bo n2 A2 L2 C2 U) (hD : Codes w co n3 A3 L3 C3 D) (d : Int) (o1 o2 o3 o4 : Option Addr) (m1 m2 m3 m4 c1 c2 c3 c4 : Nat)
    (hna : na ≤ 9223372036854775807) (hm1 : m1 ≤ 9223372036854775807) (hm2 : m2 ≤ 9223372036854775807) (hm3 : m3 ≤ 9223372036854775807) (hm4 : m4 ≤ 9223372036854775807) :
    Calls Try.prog 34 #[.slice xo na capx, .slice ao n cap1, .slice bo n2 cap2, .slice co n3 cap3, .int .i16 d, .slice o1 m1 c1, .slice o2 m2 c2, .slice o3 m3 c3, .slice o4 m4 c4] w fun e w' =>
      ∃ b : Bool, e = .returned (.bool b) ∧ (b = true → Short na n n2 n3 L1 L2 L3 m1 m2 m3 m4) ∧ w' = w := by
  refine calls_of_k fun R hR => ?_
  have hn1 := hM.n63
  have hn2 := hU.n63
  have hn3 := hD.n63
  by_cases g0 : 1048576 < (na : Int)
  · go_enter Try.func34, Try.ntmps34
    go_wp2
    exact hR.out _ _ ⟨false, rfl, fun h => (by cases h), rfl⟩
  by_cases g1 : 1048576 < (n : Int)
  · go_enter Try.func34, Try.ntmps34
    go_wp2
    exact hR.out _ _ ⟨false, rfl, fun h => (by cases h), rfl⟩
  by_cases g1' : 1048576 < (na : Int) + (n : Int)
  · go_enter Try.func34, Try.ntmps34
    go_wp2
    exact hR.out _ _ ⟨false, rfl, fun h => (by cases h), rfl⟩
  go_enter Try.func34, Try.ntmps34
  go_wp2
  go_loop [19, 20] (fun t i => ∃ k : Nat, ∃ t' : Int, k ≤ n ∧ i = .int .i64 k ∧ t = .int .i64 t' ∧ 0 ≤ t' ∧ t' ≤ 1048576 ∧ ∀ j, j < k → L1 j ≤ 1048576) (fun _ i => n - (intOf i).toNat)
  case atStart => exact ⟨0, _, Nat.zero_le _, rfl, rfl, by omega, by omega, fun j hj => by omega⟩
  case round =>
    obtain ⟨k, t', hk, rfl, rfl, h0, h1, hall⟩ := hrel
    have HA := hide hall
    clear hall
    by_cases hlt : k < n
    · obtain ⟨b, off, rfl, hcell⟩ := hM.out k hlt
      have hl := hM.l63 k hlt
      go_wp2
      · exact hR.out _ _ ⟨false, rfl, fun h => (by cases h), rfl⟩
      · exact hR.out _ _ ⟨false, rfl, fun h => (by cases h), rfl⟩
      · go_round
        case rel => exact ⟨k + 1, _, by omega, by go_num, rfl, by omega, by omega, fun j hj => by
          by_cases e : j = k
          · subst e; omega
          · exact HA.out j (by omega)⟩
        case measure => simp [intOf]; omega
    · have HA1 : Hid (∀ j, j < n → L1 j ≤ 1048576) := fun j hj => HA.out j (by omega)
      clear HA
      by_cases g2 : 1048576 < (n2 : Int)
      · go_wp2
        exact hR.out _ _ ⟨false, rfl, fun h => (by cases h), rfl⟩
      by_cases g2' : 1048576 < t' + (n2 : Int)
      · go_wp2
        exact hR.out _ _ ⟨false, rfl, fun h => (by cases h), rfl⟩
      go_wp2
      go_loop [19, 21] (fun t i => ∃ k : Nat, ∃ t' : Int, k ≤ n2 ∧ i = .int .i64 k ∧ t = .int .i64 t' ∧ 0 ≤ t' ∧ t' ≤ 1048576 ∧ ∀ j, j < k → L2 j ≤ 1048576) (fun _ i => n2 - (intOf i).toNat)
      case atStart => exact ⟨0, _, Nat.zero_le _, rfl, rfl, by omega, by omega, fun j hj => by omega⟩
      case round =>
        obtain ⟨k, t', hk, rfl, rfl, h0, h1, hall⟩ := hrel
        have HA := hide hall
        clear hall
        by_cases hlt : k < n2
        · obtain ⟨b, off, rfl, hcell⟩ := hU.out k hlt
          have hl := hU.l63 k hlt
          go_wp2
          · exact hR.out _ _ ⟨false, rfl, fun h => (by cases h), rfl⟩
          · exact hR.out _ _ ⟨false, rfl, fun h => (by cases h), rfl⟩
          · go_round
            case rel => exact ⟨k + 1, _, by omega, by go_num, rfl, by omega, by omega, fun j hj => by
              by_cases e : j = k
              · subst e; omega
              · exact HA.out j (by omega)⟩
            case measure => simp [intOf]; omega
        · have HA2 : Hid (∀ j, j < n2 → L2 j ≤ 1048576) := fun j hj => HA.out j (by omega)
          clear HA
          by_cases g3 : 1048576 < (n3 : Int)
          · go_wp2
            exact hR.out _ _ ⟨false, rfl, fun h => (by cases h), rfl⟩
          by_cases g3' : 1048576 < t' + (n3 : Int)
          · go_wp2
            exact hR.out _ _ ⟨false, rfl, fun h => (by cases h), rfl⟩
          go_wp2
          go_loop [19, 22] (fun t i => ∃ k : Nat, ∃ t' : Int, k ≤ n3 ∧ i = .int .i64 k ∧ t = .int .i64 t' ∧ 0 ≤ t' ∧ t' ≤ 1048576 ∧ ∀ j, j < k → L3 j ≤ 1048576) (fun _ i => n3 - (intOf i).toNat)
          case atStart => exact ⟨0, _, Nat.zero_le _, rfl, rfl, by omega, by omega, fun j hj => by omega⟩
          case round =>
            obtain ⟨k, t', hk, rfl, rfl, h0, h1, hall⟩ := hrel
            have HA := hide hall
            clear hall
            by_cases hlt : k < n3
            · obtain ⟨b, off, rfl, hcell⟩ := hD.out k hlt
              have hl := hD.l63 k hlt
              go_wp2
              · exact hR.out _ _ ⟨false, rfl, fun h => (by cases h), rfl⟩
              · exact hR.out _ _ ⟨false, rfl, fun h => (by cases h), rfl⟩
              · go_round
                case rel => exact ⟨k + 1, _, by omega, by go_num, rfl, by omega, by omega, fun j hj => by
                  by_cases e : j = k
                  · subst e; omega
                  · exact HA.out j (by omega)⟩
                case measure => simp [intOf]; omega
            · have HA3 : Hid (∀ j, j < n3 → L3 j ≤ 1048576) := fun j hj => HA.out j (by omega)
              clear HA
              by_cases x1 : 1048576 < (m1 : Int)
              · go_wp2
                exact hR.out _ _ ⟨false, rfl, fun h => (by cases h), rfl⟩
              by_cases x1' : 1048576 < t' + (m1 : Int)
              · go_wp2
                exact hR.out _ _ ⟨false, rfl, fun h => (by cases h), rfl⟩
              by_cases x2 : 1048576 < (m2 : Int)
              · go_wp2
                exact hR.out _ _ ⟨false, rfl, fun h => (by cases h), rfl⟩
              by_cases x2' : 1048576 < t' + (m1 : Int) + (m2 : Int)
              · go_wp2
                exact hR.out _ _ ⟨false, rfl, fun h => (by cases h), rfl⟩
              by_cases x3 : 1048576 < (m3 : Int)
              · go_wp2
                exact hR.out _ _ ⟨false, rfl, fun h => (by cases h), rfl⟩
              by_cases x3' : 1048576 < t' + (m1 : Int) + (m2 : Int) + (m3 : Int)
              · go_wp2
                exact hR.out _ _ ⟨false, rfl, fun h => (by cases h), rfl⟩
              by_cases x4 : 1048576 < (m4 : Int)
              · go_wp2
                exact hR.out _ _ ⟨false, rfl, fun h => (by cases h), rfl⟩
              by_cases x4' : 1048576 < t' + (m1 : Int) + (m2 : Int) + (m3 : Int) + (m4 : Int)
              · go_wp2
                exact hR.out _ _ ⟨false, rfl, fun h => (by cases h), rfl⟩
              go_wp2
              exact hR.out _ _ ⟨true, rfl, fun _ => ⟨by omega, ⟨by omega, HA1.out⟩, ⟨by omega, HA2.out⟩, ⟨by omega, HA3.out⟩, by omega, by omega, by omega, by omega⟩, rfl⟩

end Go.Proofs.Qxb6000633a
