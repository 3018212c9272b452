/-
  What reads a kind's text back.
-/
import Derived.Test.Qxb6000561aDoorRows
import Derived.Test.Qxb6000561aDoorPlain
import Derived.WalkKit
import Derived.BigCall
import Derived.Below
import Derived.Deep.LoopGhost
namespace Go.Proofs.Qxb6000561aDoor
open Go.RowKit

theorem hide {p : Prop} (h : p) : Hid p := h

set_option maxRecDepth 100000 in
set_option maxHeartbeats 1000000 in
theorem kindName_any (k : Nat) (h : 1 ≤ k ∧ k ≤ 7) (w : World) : Calls Tryd.prog 8 #[.int .i64 k] w fun e w' => e = .returned (.string ⟨(nameB k).toArray⟩) ∧ w' = w := by
  obtain rfl | rfl | rfl | rfl | rfl | rfl | rfl : k = 1 ∨ k = 2 ∨ k = 3 ∨ k = 4 ∨ k = 5 ∨ k = 6 ∨ k = 7 := by omega
  all_goals (go_enter Tryd.func8, Tryd.ntmps8; go_wp2; go_ret; exact ⟨rfl, rfl⟩)

theorem int_eq {k : IntKind} {a b : Int} (h : a = b) : Value.int k a = Value.int k b := by rw [h]

theorem byte_at {s : ByteArray} {l : List UInt8} (hs : s.data.toList = l) {i : Nat} (hi : i < s.size) : s[i] = l.getD i 0 := by
  subst hs
  have hi' : i < s.data.size := hi
  show s.data[i] = _
  have h : s.data[i]? = some s.data[i] := Array.getElem?_eq_getElem hi'
  simp [List.getD, h]

theorem size_of {s : ByteArray} {l : List UInt8} (hs : s.data.toList = l) : s.size = l.length := by
  subst hs
  exact (Array.length_toList ..).symm

set_option maxRecDepth 100000 in
set_option maxHeartbeats 1000000 in
theorem parseDecimal_any (k : Nat) (hk : k < 256) (s : ByteArray) (hs : s.data.toList = dec3 k) (w : World) : Calls Tryd.prog 9 #[.string s] w fun e w' => e = .returned (.tuple #[.int .i64 k, .bool true]) ∧ w' = w := by
  obtain ⟨m, hm⟩ : ∃ m, s.size = m := ⟨_, rfl⟩
  have hl : (dec3 k).length = m := by rw [← size_of hs]; exact hm
  have hlen := dec3_length k
  rw [hl] at hlen
  obtain ⟨m1, m3⟩ := hlen
  have HD : Hid (∀ i (hi : i < s.size), 48 ≤ (s[i]).toNat ∧ (s[i]).toNat ≤ 57 ∧ acc k (i + 1) = acc k i * 10 + ((s[i]).toNat - 48) ∧ acc k i ≤ 255) := by
    intro i hi
    rw [byte_at hs hi]
    exact digits_fin ⟨k, hk⟩ ⟨i, by omega⟩ (by show i < (dec3 k).length; omega)
  have HE : Hid (acc k m = k) := hl ▸ acc_fin ⟨k, hk⟩
  have b0 : ((m : Int) == 0) = false := by simp; omega
  have p0 : 0 < s.size := by rw [hm]; omega
  by_cases h1 : 1 < m
  · have hx : (s[0]'p0) ≠ 48 := by rw [byte_at hs p0]; exact lead_fin ⟨k, hk⟩ (by show 1 < (dec3 k).length; omega)
    obtain ⟨x0, e0⟩ : ∃ x : UInt8, s[0]'p0 = x := ⟨_, rfl⟩
    have bx : ((x0.toNat : Int) == 48) = false := by
      rw [beq_eq_false_iff_ne]
      intro h
      exact hx (by rw [e0]; apply UInt8.toNat_inj.1; have : (48 : UInt8).toNat = 48 := rfl; omega)
    clear hx hl hs
    go_enter Tryd.func9, Tryd.ntmps9
    go_wp2
    go_loopg [4, 5] m (fun g v i wr => ∃ j : Nat, j + g = m ∧ v = .int .i64 (acc k j : Nat) ∧ i = .int .i64 j ∧ wr = w)
    case atStart => exact ⟨0, by omega, rfl, rfl, rfl⟩
    case round =>
      obtain ⟨j, hj, rfl, rfl, rfl⟩ := hrel
      by_cases hlt : j < m
      · have pj : j < s.size := by rw [hm]; exact hlt
        obtain ⟨x1, x2, x3, x4⟩ := HD.out j pj
        have HX := hide x3
        clear x3
        obtain ⟨x, ex⟩ : ∃ x : UInt8, s[j]'pj = x := ⟨_, rfl⟩
        rw [ex] at x1 x2 HX
        go_wp2
        go_roundg (m - (j + 1))
        case measure => omega
        case rel => exact ⟨j + 1, by omega, int_eq (by have := HX.out; omega), by go_num, rfl⟩
      · have e : j = m := by omega
        subst e
        rw [HE.out]
        go_wp2
        go_ret2
        exact ⟨rfl, rfl⟩
  · clear hl hs
    go_enter Tryd.func9, Tryd.ntmps9
    go_wp2
    go_loopg [4, 5] m (fun g v i wr => ∃ j : Nat, j + g = m ∧ v = .int .i64 (acc k j : Nat) ∧ i = .int .i64 j ∧ wr = w)
    case atStart => exact ⟨0, by omega, rfl, rfl, rfl⟩
    case round =>
      obtain ⟨j, hj, rfl, rfl, rfl⟩ := hrel
      by_cases hlt : j < m
      · have pj : j < s.size := by rw [hm]; exact hlt
        obtain ⟨x1, x2, x3, x4⟩ := HD.out j pj
        have HX := hide x3
        clear x3
        obtain ⟨x, ex⟩ : ∃ x : UInt8, s[j]'pj = x := ⟨_, rfl⟩
        rw [ex] at x1 x2 HX
        go_wp2
        go_roundg (m - (j + 1))
        case measure => omega
        case rel => exact ⟨j + 1, by omega, int_eq (by have := HX.out; omega), by go_num, rfl⟩
      · have e : j = m := by omega
        subst e
        rw [HE.out]
        go_wp2
        go_ret2
        exact ⟨rfl, rfl⟩

end Go.Proofs.Qxb6000561aDoor
