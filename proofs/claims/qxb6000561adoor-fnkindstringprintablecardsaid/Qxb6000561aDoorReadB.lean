/-
  parseKind; the text of every kind reads back; it is printable.
-/
import Derived.Test.Qxb6000561aDoorRead
import Derived.Test.Qxb6000561aDoorKindB
namespace Go.Proofs.Qxb6000561aDoor
open Go.RowKit

set_option maxRecDepth 100000 in
set_option maxHeartbeats 1000000 in
theorem parseKind_known (k : Nat) (h : 1 ≤ k ∧ k ≤ 7) (w : World) : Calls Tryd.prog 6 #[.string ⟨(nameB k).toArray⟩] w fun e w' => e = .returned (.tuple #[.int .i64 k, .bool true]) ∧ w' = w := by
  obtain ⟨k1, k7⟩ := h
  go_enter Tryd.func6, Tryd.ntmps6
  go_wp2
  go_loopg [4] 7 (fun g v wr => ∃ i : Nat, 1 ≤ i ∧ i ≤ k ∧ i + g = 8 ∧ v = .int .i64 i ∧ wr = w)
  case atStart => exact ⟨1, by omega, by omega, by omega, rfl, rfl⟩
  case round =>
    obtain ⟨i, i1, i2, hi, rfl, rfl⟩ := hrel
    by_cases e : i = k
    · subst e
      go_wp2_with fail
      refine (kindName_any i ⟨i1, k7⟩ _).mono ?_
      rintro e w' ⟨rfl, rfl⟩
      go_wp2
      go_ret2
      exact ⟨rfl, rfl⟩
    · have hne : (nameB k == nameB i) = false := beq_eq_false_iff_ne.2 (fun h => e ((names_fin ⟨k, by omega⟩ ⟨i, by omega⟩ k1 i1).1 h).symm)
      go_wp2_with fail
      refine (kindName_any i ⟨i1, by omega⟩ _).mono ?_
      rintro e w' ⟨rfl, rfl⟩
      go_wp2
      go_roundg (8 - (i + 1))
      case measure => omega
      case rel => exact ⟨i + 1, by omega, by omega, by omega, by go_num, rfl⟩

set_option maxRecDepth 100000 in
set_option maxHeartbeats 1000000 in
theorem parseKind_other (k : Nat) (hk : k < 256) (h : ¬ (1 ≤ k ∧ k ≤ 7)) (l : List UInt8) (hs : l = [107, 105, 110, 100, 32] ++ dec3 k) (w : World) : Calls Tryd.prog 6 #[.string ⟨l.toArray⟩] w fun e w' => e = .returned (.tuple #[.int .i64 k, .bool true]) ∧ w' = w := by
  have HN : Hid (∀ i : Nat, i ≤ 7 → (l == nameB i) = false) := fun i hi => beq_eq_false_iff_ne.2 (by rw [hs]; exact other_fin ⟨k, hk⟩ ⟨i, by omega⟩)
  obtain ⟨m, hm⟩ : ∃ m, l.length = m := ⟨_, rfl⟩
  have hm5 : 5 < m := by
    rw [← hm, hs]
    have := dec3_length k
    simp only [List.length_append, List.length_cons, List.length_nil]
    omega
  have hp : (⟨l.toArray⟩ : ByteArray).extract 0 5 = ⟨#[107, 105, 110, 100, 32]⟩ := by
    apply ByteArray.ext
    apply Array.toList_inj.1
    simp [hs]
  have htd : ((⟨l.toArray⟩ : ByteArray).extract 5 m).data.toList = dec3 k := by
    rw [← hm]
    simp [hs]
  obtain ⟨t, ht⟩ : ∃ t, (⟨l.toArray⟩ : ByteArray).extract 5 m = t := ⟨_, rfl⟩
  rw [ht] at htd
  have HP := hide (parseDecimal_any k hk t htd)
  clear hs htd
  go_enter Tryd.func6, Tryd.ntmps6
  go_wp2
  go_loopg [4] 7 (fun g v wr => ∃ i : Nat, 1 ≤ i ∧ i + g = 8 ∧ v = .int .i64 i ∧ wr = w)
  case atStart => exact ⟨1, by omega, by omega, rfl, rfl⟩
  case round =>
    obtain ⟨i, i1, hi, rfl, rfl⟩ := hrel
    by_cases e : i ≤ 7
    · have hne := HN.out i e
      go_wp2_with fail
      refine (kindName_any i ⟨i1, e⟩ _).mono ?_
      rintro e w' ⟨rfl, rfl⟩
      go_wp2
      go_roundg (8 - (i + 1))
      case measure => omega
      case rel => exact ⟨i + 1, by omega, by omega, by go_num, rfl⟩
    · go_wp2_with fail
      refine (HP.out _).mono ?_
      rintro e w' ⟨rfl, rfl⟩
      by_cases h1 : 1 ≤ k
      · have h7 : ¬ ((k : Int) ≤ 7) := by omega
        go_wp2
        go_ret2
        exact ⟨rfl, rfl⟩
      · go_wp2
        go_ret2
        exact ⟨rfl, rfl⟩

theorem kb_read (k : Nat) (hk : k < 256) (w : World) : Calls Tryd.prog 6 #[.string ⟨(kb k).toArray⟩] w fun e w' => e = .returned (.tuple #[.int .i64 k, .bool true]) ∧ w' = w := by
  by_cases h : 1 ≤ k ∧ k ≤ 7
  · rw [kb_known h]; exact parseKind_known k h w
  · exact parseKind_other k hk h _ (kb_other h) w

set_option maxRecDepth 100000 in
set_option maxHeartbeats 1000000 in
theorem roundTrip_any (k : Nat) (hk : k < 256) (w : World) (htab : Lib.TabIs Tryd.prog w "internal/strconv.uint64pow10" .u64 Lib.pow10Tab) :
    Calls Tryd.prog 3 #[.int .u8 k] w fun e w' => e = .returned (.bool true) ∧ Below w.heap.size w w' := by
  go_enter Tryd.func3, Tryd.ntmps3
  go_wp2_with fail
  refine (kindString_any k hk w htab).mono ?_
  rintro e w1 ⟨rfl, hb1⟩
  go_wp2_with fail
  refine (kb_read k hk w1).mono ?_
  rintro e w2 ⟨rfl, rfl⟩
  go_wp2
  go_ret
  exact ⟨rfl, hb1⟩

set_option maxRecDepth 100000 in
set_option maxHeartbeats 1000000 in
theorem printable_any (k : Nat) (hk : k < 256) (w : World) (htab : Lib.TabIs Tryd.prog w "internal/strconv.uint64pow10" .u64 Lib.pow10Tab) :
    Calls Tryd.prog 5 #[.int .u8 k] w fun e w' => e = .returned (.bool true) ∧ Below w.heap.size w w' := by
  have HK := hide (kindString_any k hk w htab)
  obtain ⟨s, hs0⟩ : ∃ s : ByteArray, s = ⟨(kb k).toArray⟩ := ⟨_, rfl⟩
  have hs : s.data.toList = kb k := by rw [hs0]
  rw [← hs0] at HK
  have hsz := size_fin ⟨k, hk⟩
  obtain ⟨m, hm⟩ : ∃ m, s.size = m := ⟨_, rfl⟩
  have hl : (kb k).length = m := by rw [← size_of hs]; exact hm
  simp only [hl] at hsz
  obtain ⟨m1, m2⟩ := hsz
  have HD : Hid (∀ i (hi : i < s.size), (97 ≤ (s[i]).toNat ∧ (s[i]).toNat ≤ 122) ∨ (48 ≤ (s[i]).toNat ∧ (s[i]).toNat ≤ 57) ∨ (s[i]).toNat = 32) := by
    intro i hi
    rw [byte_at hs hi]
    exact print_fin ⟨k, hk⟩ ⟨i, by omega⟩ (by show i < (kb k).length; omega)
  have hends := ends_fin ⟨k, hk⟩
  simp only [hl] at hends
  have p0 : 0 < s.size := by rw [hm]; omega
  have pl : m - 1 < s.size := by rw [hm]; omega
  rw [← byte_at hs p0, ← byte_at hs pl] at hends
  obtain ⟨x0, e0⟩ : ∃ x : UInt8, s[0]'p0 = x := ⟨_, rfl⟩
  obtain ⟨x1, e1⟩ : ∃ x : UInt8, s[m - 1]'pl = x := ⟨_, rfl⟩
  rw [e0, e1] at hends
  have b0 : ((x0.toNat : Int) == 32) = false := by
    rw [beq_eq_false_iff_ne]
    intro h
    exact hends.1 (by apply UInt8.toNat_inj.1; have : (32 : UInt8).toNat = 32 := rfl; omega)
  have b1 : ((x1.toNat : Int) == 32) = false := by
    rw [beq_eq_false_iff_ne]
    intro h
    exact hends.2 (by apply UInt8.toNat_inj.1; have : (32 : UInt8).toNat = 32 := rfl; omega)
  clear hends hl hs hs0
  go_enter Tryd.func5, Tryd.ntmps5
  go_wp2_with fail
  refine HK.out.mono ?_
  rintro e w1 ⟨rfl, hb⟩
  have HB := hide hb
  clear hb HK
  go_wp2
  go_loopg [4] m (fun g v wr => ∃ j : Nat, j + g = m ∧ v = .int .i64 j ∧ wr = w1)
  case atStart => exact ⟨0, by omega, rfl, rfl⟩
  case round =>
    obtain ⟨j, hj, rfl, rfl⟩ := hrel
    by_cases hlt : j < m
    · have pj : j < s.size := by rw [hm]; exact hlt
      have hd := HD.out j pj
      obtain ⟨x, ex⟩ : ∃ x : UInt8, s[j]'pj = x := ⟨_, rfl⟩
      rw [ex] at hd
      have hx := x.toNat_lt
      rcases hd with ⟨a1, a2⟩ | ⟨a1, a2⟩ | a1
      · go_wp2
        go_roundg (m - (j + 1))
        case measure => omega
        case rel => exact ⟨j + 1, by omega, by go_num, rfl⟩
      · go_wp2
        go_roundg (m - (j + 1))
        case measure => omega
        case rel => exact ⟨j + 1, by omega, by go_num, rfl⟩
      · go_wp2
        go_roundg (m - (j + 1))
        case measure => omega
        case rel => exact ⟨j + 1, by omega, by go_num, rfl⟩
    · have e : j = m := by omega
      subst e
      go_wp2
      go_ret
      exact ⟨rfl, HB.out⟩

end Go.Proofs.Qxb6000561aDoor
