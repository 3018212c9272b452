/-
  What the walks are told of memory that came in; contracts of the functions that only read the codes.
-/
import Derived.Test.Qxb6000633aRows
import Derived.Test.Qxb6000633aPure
import Derived.WalkKit
import Derived.WalkSpells
import Derived.WalkLawsBesides
import Derived.Deep.OwnRows
namespace Go.Proofs.Qxb6000633a
open Go.RowKit

/-- the store of a float (the kit has this law for integers, bools, pointers, slices, strings) -/
theorem run_store_float {P : Program} (w : World) (a : Addr) (m : Mode) (k : FloatKind) (b : Nat) : (store a (.float k b) m).run P w = stored P w a (.float k b) m := run_store P w a _ m rfl

/-- the slice value (ao, n) reads g i at index i -/
def Rd (w : World) (ao : Option Addr) (n : Nat) (g : Nat → Value) : Prop :=
  ∀ i, i < n → ∃ b off, ao = some ⟨b, off, none⟩ ∧ w.cell? ⟨b, off + i, none⟩ = some (g i)

theorem cell_lt {w : World} {a : Addr} {v : Value} (h : w.cell? a = some v) : a.block < w.heap.size := by
  unfold World.cell? at h
  split at h
  · rename_i hb
    exact (Array.getElem?_eq_some_iff.1 hb).1
  · cases h

theorem Rd.stays {w w' : World} {ao : Option Addr} {n : Nat} {g : Nat → Value} (h : Rd w ao n g) (hb : Below w.heap.size w w') : Rd w' ao n g := by
  intro i hi
  obtain ⟨b, off, e, hc⟩ := h i hi
  exact ⟨b, off, e, (hb.cell (cell_lt hc)).trans hc⟩

/-- a table of codes: n rows, row j of L j codes -/
structure Codes (w : World) (ao : Option Addr) (n : Nat) (A : Nat → Option Addr) (L C : Nat → Nat) (M : Nat → Nat → Int) : Prop where
  out : Rd w ao n (fun j => .slice (A j) (L j) (C j))
  row : ∀ j, j < n → Rd w (A j) (L j) (fun k => .int .u8 (M j k))
  rng : ∀ j k, j < n → k < L j → 0 ≤ M j k ∧ M j k < 256
  n63 : n ≤ 9223372036854775807
  l63 : ∀ j, j < n → L j ≤ 9223372036854775807

theorem Codes.stays {w w' : World} {ao : Option Addr} {n : Nat} {A : Nat → Option Addr} {L C : Nat → Nat} {M : Nat → Nat → Int} (h : Codes w ao n A L C M) (hb : Below w.heap.size w w') : Codes w' ao n A L C M :=
  ⟨h.out.stays hb, fun j hj => (h.row j hj).stays hb, h.rng, h.n63, h.l63⟩

/-- one code of a table whose rows are all lv long -/
theorem Codes.at {w : World} {ao : Option Addr} {n : Nat} {A : Nat → Option Addr} {L C : Nat → Nat} {M : Nat → Nat → Int} (h : Codes w ao n A L C M) {lv j k : Nat} (e : ∀ j, j < n → L j = lv) (hj : j < n) (hk : k < lv) :
    ∃ b off y p, ao = some ⟨b, off, none⟩ ∧ w.cell? ⟨b, off + j, none⟩ = some (.slice (some ⟨y, p, none⟩) lv (C j)) ∧ w.cell? ⟨y, p + k, none⟩ = some (.int .u8 (M j k)) ∧ 0 ≤ M j k ∧ M j k < 256 := by
  obtain ⟨b, off, h1, h2⟩ := h.out j hj
  obtain ⟨y, p, h3, h4⟩ := h.row j hj k (by rw [e j hj]; exact hk)
  obtain ⟨h5, h6⟩ := h.rng j k hj (by rw [e j hj]; exact hk)
  refine ⟨b, off, y, p, h1, ?_, h4, h5, h6⟩
  have h2' : w.cell? ⟨b, off + j, none⟩ = some (.slice (A j) (L j) (C j)) := h2
  rw [h2', h3, e j hj]

/-- the chance of a code, as a float64's bits -/
def cf (n : Int) : Nat := if n % 3 = 0 then 0 else if n % 3 = 1 then 4602678819172646912 else 4607182418800017408

/-- the post stands behind a letter, so that the walk does not rewrite it -/
theorem calls_of_k {P : Program} {f : FuncId} {args : Array Value} {w : World} {Post : Ending → World → Prop}
    (h : ∀ R : Ending → World → Prop, Hid (∀ e w', Post e w' → R e w') → Calls P f args w R) : Calls P f args w Post := h Post (fun _ _ h => h)

theorem hide {p : Prop} (h : p) : Hid p := h

theorem int_eq {k : IntKind} {a b : Int} (h : a = b) : Value.int k a = Value.int k b := by rw [h]
theorem ret_int {k : IntKind} {a b : Int} (h : a = b) : Ending.returned (.int k a) = .returned (.int k b) := by rw [h]
theorem ret_float {k : FloatKind} {a b : Nat} (h : a = b) : Ending.returned (.float k a) = .returned (.float k b) := by rw [h]

set_option maxHeartbeats 400000 in
theorem chance_any (n : Int) (h0 : 0 ≤ n) (h1 : n < 256) (w : World) :
    Calls Try.prog 39 #[.int .u8 n] w fun e w' => e = .returned (.float .f64 (cf n)) ∧ w' = w := by
  go_enter Try.func39, Try.ntmps39
  go_wp2
  · have h : (n % 3 == 0) = true := by assumption
    go_ret
    exact ⟨ret_float (by simp at h; simp [cf, h]), rfl⟩
  · have h : (n % 3 == 0) = false := by assumption
    have h' : (n % 3 == 1) = true := by assumption
    go_ret
    exact ⟨ret_float (by simp at h h'; simp [cf, h']), rfl⟩
  · have h : (n % 3 == 0) = false := by assumption
    have h' : (n % 3 == 1) = false := by assumption
    go_ret
    exact ⟨ret_float (by simp at h h'; simp [cf, h, h']), rfl⟩

set_option maxHeartbeats 400000 in
theorem codeBytes_any (w : World) (ao : Option Addr) (n cap : Nat) (A : Nat → Option Addr) (L C : Nat → Nat) (M : Nat → Nat → Int) (hc : Codes w ao n A L C M) :
    Calls Try.prog 10 #[.slice ao n cap] w fun e w' => ∃ r : Int, e = .returned (.int .i64 r) ∧ 0 ≤ r ∧ r ≤ 25165824 ∧ w' = w := by
  have hn := hc.n63
  by_cases hbig : 1048576 < n
  · go_enter Try.func10, Try.ntmps10
    go_wp2
    go_ret
    exact ⟨_, rfl, by omega, by omega, rfl⟩
  · have hbig' : n ≤ 1048576 := by omega
    clear hbig
    go_enter Try.func10, Try.ntmps10
    go_wp2
    go_loop [3, 4] (fun t i => ∃ k : Nat, ∃ t' : Int, k ≤ n ∧ i = .int .i64 k ∧ t = .int .i64 t' ∧ 0 ≤ t' ∧ t' ≤ 25165824) (fun _ i => n - (intOf i).toNat)
    case atStart => exact ⟨0, _, Nat.zero_le _, rfl, rfl, by omega, by omega⟩
    case round =>
      obtain ⟨k, t', hk, rfl, rfl, h0, h1⟩ := hrel
      by_cases hlt : k < n
      · obtain ⟨b, off, rfl, hcell⟩ := hc.out k hlt
        have hl := hc.l63 k hlt
        go_wp2
        · go_ret
          exact ⟨_, rfl, by omega, by omega, rfl⟩
        · go_ret
          exact ⟨_, rfl, by omega, by omega, rfl⟩
        · go_round
          case rel => exact ⟨k + 1, _, by omega, by go_num, rfl, by omega, by omega⟩
          case measure => simp [intOf]; omega
      · go_wp2
        go_ret
        exact ⟨_, rfl, by omega, by omega, rfl⟩

set_option maxHeartbeats 400000 in
theorem levels_any (w : World) (ao : Option Addr) (n cap : Nat) (A : Nat → Option Addr) (L C : Nat → Nat) (M : Nat → Nat → Int) (hc : Codes w ao n A L C M) :
    Calls Try.prog 13 #[.slice ao n cap] w fun e w' => e = .returned (.int .i64 ((if n = 0 then 0 else L 0 : Nat) : Int)) ∧ w' = w := by
  have hn := hc.n63
  refine calls_of_k fun R hR => ?_
  by_cases h0 : n = 0
  · subst h0
    go_enter Try.func13, Try.ntmps13
    go_wp2
    exact hR.out _ _ ⟨rfl, rfl⟩
  · obtain ⟨b, off, rfl, hcell⟩ := hc.out 0 (by omega)
    have hpos : 0 < n := by omega
    have hne : ((n : Int) == 0) = false := by simp; omega
    simp only [Nat.add_zero] at hcell
    go_enter Try.func13, Try.ntmps13
    go_wp2
    exact hR.out _ _ ⟨ret_int (by rw [if_neg h0]), rfl⟩

set_option maxHeartbeats 400000 in
theorem shape_any (w : World) (ao : Option Addr) (n cap : Nat) (A : Nat → Option Addr) (L C : Nat → Nat) (M : Nat → Nat → Int) (hc : Codes w ao n A L C M)
    (m lv : Nat) (hm : m ≤ 9223372036854775807) :
    Calls Try.prog 37 #[.slice ao n cap, .int .i64 m, .int .i64 lv] w fun e w' => ∃ b : Bool, e = .returned (.bool b) ∧ (b = true → n = m ∧ ∀ j, j < n → L j = lv) ∧ w' = w := by
  have hn := hc.n63
  refine calls_of_k fun R hR => ?_
  by_cases hnm : n = m
  · subst hnm
    go_enter Try.func37, Try.ntmps37
    go_wp2
    go_loop [7] (fun i => ∃ k : Nat, k ≤ n ∧ i = .int .i64 k ∧ ∀ j, j < k → L j = lv) (fun i => n - (intOf i).toNat)
    case atStart => exact ⟨0, Nat.zero_le _, rfl, fun j hj => by omega⟩
    case round =>
      obtain ⟨k, hk, rfl, hall⟩ := hrel
      have HA : Hid (∀ j, j < k → L j = lv) := hall
      clear hall
      by_cases hlt : k < n
      · obtain ⟨b, off, rfl, hcell⟩ := hc.out k hlt
        have hl := hc.l63 k hlt
        by_cases hll : L k = lv
        · have HL : Hid (L k = lv) := hll
          have hb : (((L k : Nat) : Int) != (lv : Int)) = false := by simp; omega
          clear hll
          go_wp2
          go_round
          case rel => exact ⟨k + 1, by omega, by go_num, fun j hj => by
            by_cases e : j = k
            · subst e; exact HL.out
            · exact HA.out j (by omega)⟩
          case measure => simp [intOf]; omega
        · have hb : (((L k : Nat) : Int) != (lv : Int)) = true := by simp; omega
          go_wp2
          exact hR.out _ _ ⟨false, rfl, fun h => (by cases h), rfl⟩
      · go_wp2
        exact hR.out _ _ ⟨true, rfl, fun _ => ⟨by first | trivial | rfl, fun j hj => HA.out j (by omega)⟩, rfl⟩
  · have hb : (((n : Nat) : Int) != (m : Int)) = true := by simp; omega
    go_enter Try.func37, Try.ntmps37
    go_wp2
    exact hR.out _ _ ⟨false, rfl, fun h => (by cases h), rfl⟩

/-- halves at level k among the first n jobs of a table of codes -/
def hv (M : Nat → Nat → Int) (k : Nat) (n : Nat) : Nat := cnt (fun j => M j k % 3 == 1) n

theorem hv_succ (M : Nat → Nat → Int) (k n : Nat) : hv M k (n + 1) = hv M k n + (if (M n k % 3 == 1) = true then 1 else 0) := rfl
theorem hv_le (M : Nat → Nat → Int) (k n : Nat) : hv M k n ≤ n := cnt_le _ _

theorem hv_int (M U D : Nat → Nat → Int) (k j : Nat) (x : Int) (h : x = hv M k j + hv U k j + hv D k j + (if (M j k % 3 == 1) = true then 1 else 0) + (if (U j k % 3 == 1) = true then 1 else 0) + (if (D j k % 3 == 1) = true then 1 else 0)) :
    Value.int .i64 x = .int .i64 ((hv M k (j + 1) + hv U k (j + 1) + hv D k (j + 1) : Nat) : Int) := by
  refine int_eq ?_
  rw [h, hv_succ, hv_succ, hv_succ]
  split <;> split <;> split <;> omega

set_option maxHeartbeats 1000000 in
theorem halves_any (w : World) (ao bo co : Option Addr) (n cap1 cap2 cap3 lv : Nat) (A1 A2 A3 : Nat → Option Addr) (L1 L2 L3 C1 C2 C3 : Nat → Nat) (M U D : Nat → Nat → Int)
    (hM : Codes w ao n A1 L1 C1 M) (hU : Codes w bo n A2 L2 C2 U) (hD : Codes w co n A3 L3 C3 D)
    (e1 : ∀ j, j < n → L1 j = lv) (e2 : ∀ j, j < n → L2 j = lv) (e3 : ∀ j, j < n → L3 j = lv) (hn : n ≤ 1048576) (hlv : lv ≤ 1048576) :
    Calls Try.prog 38 #[.slice ao n cap1, .slice bo n cap2, .slice co n cap3, .int .i64 n, .int .i64 lv] w fun e w' =>
      ∃ b : Bool, e = .returned (.bool b) ∧ (b = true → ∀ k, k < lv → hv M k n + hv U k n + hv D k n ≤ 1000) ∧ w' = w := by
  refine calls_of_k fun R hR => ?_
  have E1 := hide e1
  have E2 := hide e2
  have E3 := hide e3
  clear e1 e2 e3
  go_enter Try.func38, Try.ntmps38
  go_wp2
  go_loop [11] (fun i => ∃ k : Nat, k ≤ lv ∧ i = .int .i64 k ∧ ∀ q, q < k → hv M q n + hv U q n + hv D q n ≤ 1000) (fun i => lv - (intOf i).toNat)
  case atStart => exact ⟨0, Nat.zero_le _, rfl, fun q hq => by omega⟩
  case round =>
    obtain ⟨k, hk, rfl, hall⟩ := hrel
    have HA := hide hall
    clear hall
    by_cases hlt : k < lv
    · go_wp2
      go_loop [12, 13] (fun h i => ∃ j : Nat, j ≤ n ∧ i = .int .i64 j ∧ h = .int .i64 ((hv M k j + hv U k j + hv D k j : Nat) : Int)) (fun _ i => n - (intOf i).toNat)
      case atStart => exact ⟨0, Nat.zero_le _, rfl, rfl⟩
      case round =>
        obtain ⟨j, hj, rfl, rfl⟩ := hrel
        have b1 := hv_le M k j
        have b2 := hv_le U k j
        have b3 := hv_le D k j
        by_cases hjn : j < n
        · obtain ⟨x1, o1, y1, p1, rfl, c1, d1, r1, s1⟩ := hM.at E1.out hjn hlt
          obtain ⟨x2, o2, y2, p2, rfl, c2, d2, r2, s2⟩ := hU.at E2.out hjn hlt
          obtain ⟨x3, o3, y3, p3, rfl, c3, d3, r3, s3⟩ := hD.at E3.out hjn hlt
          go_wp2
          all_goals
            go_round
            case rel => exact ⟨j + 1, by omega, by go_num, hv_int M U D k j _ (by simp only [*, if_true, if_false, Bool.false_eq_true]; try omega)⟩
            case measure => simp [intOf]; omega
        · have ej : j = n := by omega
          subst ej
          go_wp2
          · exact hR.out _ _ ⟨false, rfl, fun h => (by cases h), rfl⟩
          · go_round
            case rel => exact ⟨k + 1, by omega, by go_num, fun q hq => by
              by_cases e : q = k
              · subst e; omega
              · exact HA.out q (by omega)⟩
            case measure => simp [intOf]; omega
    · go_wp2
      exact hR.out _ _ ⟨true, rfl, fun _ q hq => HA.out q (by omega), rfl⟩

/-- what the pair premise gives -/
structure Shaped (n lv : Nat) (L1 L2 L3 : Nat → Nat) (M U D : Nat → Nat → Int) : Prop where
  e1 : ∀ j, j < n → L1 j = lv
  e2 : ∀ j, j < n → L2 j = lv
  e3 : ∀ j, j < n → L3 j = lv
  few : ∀ k, k < lv → hv M k n + hv U k n + hv D k n ≤ 1000

end Go.Proofs.Qxb6000633a
