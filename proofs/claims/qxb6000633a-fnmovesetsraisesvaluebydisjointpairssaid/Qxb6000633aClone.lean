/-
  zzZerosAt; the clones of slices.
-/
import Derived.Test.Qxb6000633aModel
namespace Go.Proofs.Qxb6000633a
open Go.RowKit
attribute [local go_sem] run_store_float

set_option maxHeartbeats 1000000 in
theorem zerosAt_any (w : World) (ao : Option Addr) (n cap lv : Nat) (A : Nat → Option Addr) (C : Nat → Nat) (Q : Nat → Nat → Nat) (hc : Flts w ao n lv A C (fun j k => qb (Q j k)))
    (hn : n ≤ 1048576) (k : Nat) (hk : k < lv) (_hlv : lv ≤ 1048576) :
    Calls Try.prog 22 #[.slice ao n cap, .int .i64 n, .int .i64 k] w fun e w' => e = .returned (.int .i64 (Zc Q k n : Nat)) ∧ w' = w := by
  refine calls_of_k fun R hR => ?_
  go_enter Try.func22, Try.ntmps22
  go_wp2
  go_loop [7, 8] (fun z i => ∃ j : Nat, j ≤ n ∧ i = .int .i64 j ∧ z = .int .i64 (Zc Q k j : Nat)) (fun _ i => n - (intOf i).toNat)
  case atStart => exact ⟨0, Nat.zero_le _, rfl, rfl⟩
  case round =>
    obtain ⟨j, hj, rfl, rfl⟩ := hrel
    have hb := Zc_le Q k j
    by_cases hjn : j < n
    · obtain ⟨x1, o1, y1, p1, rfl, c1, d1⟩ := hc.at hjn hk
      have HC := hide hc
      clear hc
      by_cases q0 : Q j k = 0
      · have HZ := hide (Zc_hit q0)
        rw [q0, qb_zero] at d1
        clear q0
        have ht := eq_zero_true
        go_wp2
        go_round
        case rel => exact ⟨j + 1, by omega, by go_num, int_eq (by rw [HZ.out]; omega)⟩
        case measure => simp [intOf]; omega
      · have HZ := hide (Zc_miss q0)
        obtain ⟨h, hh, hq⟩ : ∃ h, h ≤ 1022 ∧ qb (Q j k) = pw h := by
          by_cases q1 : Q j k = 1
          · exact ⟨1, by omega, by rw [q1]; rfl⟩
          · exact ⟨0, by omega, qb_two q0 q1⟩
        rw [hq] at d1
        clear hq
        have ht := eq_zero_false hh
        go_wp2
        go_round
        case rel => exact ⟨j + 1, by omega, by go_num, int_eq (by rw [HZ.out])⟩
        case measure => simp [intOf]; omega
    · have e : j = n := by omega
      subst e
      go_wp2
      exact hR.out _ _ ⟨rfl, rfl⟩

/-- a row of the call's own, its first k cells filled -/
structure Filling (w0 w : World) (B t n k : Nat) (g : Nat → Value) (z : Value) : Prop where
  size : w.heap.size = B + 1
  below : Below B w0 w
  cur : w.rowIs B t n (fun q => if q < k then g q else z)

theorem Filling.start (w : World) (t n : Nat) (g : Nat → Value) (z : Value) : Filling w (w.alloc (.cells (madeCells #[z] n) t)) w.heap.size t n 0 g z :=
  ⟨by simp, (Below.refl _ _).alloc (Nat.le_refl _) _, (World.rowIs_made w _ n t).congr fun i _ => by simp⟩

theorem Filling.step {w0 w : World} {B t n k : Nat} {g : Nat → Value} {z : Value} (h : Filling w0 w B t n k g z) : Filling w0 (w.setCell ⟨B, k, none⟩ (g k)) B t n (k + 1) g z := by
  refine ⟨by simpa using h.size, h.below.setCell (Nat.le_refl _) _, ?_⟩
  refine (h.cur.set k _).congr fun i hi => ?_
  by_cases e : i = k
  · subst e; simp
  · rw [if_neg e]
    by_cases e' : i < k
    · rw [if_pos e', if_pos (by omega)]
    · rw [if_neg e', if_neg (by omega)]

theorem Filling.fin {w0 w : World} {B t n : Nat} {g : Nat → Value} {z : Value} (h : Filling w0 w B t n n g z) : w.rowIs B t n g := h.cur.congr fun i hi => by rw [if_pos hi]

theorem rd_of_row {w : World} {B t n : Nat} {g : Nat → Value} (h : w.rowIs B t n g) : Rd w (some ⟨B, 0, none⟩) n g :=
  fun i hi => ⟨B, 0, rfl, by rw [Nat.zero_add]; exact h.cell hi⟩

/-- a clone of a slice: nil of nil, else a row of the call's own -/
def Cloned (w w' : World) (ao : Option Addr) (n t : Nat) (g : Nat → Value) (e : Ending) : Prop :=
  ∃ ao' cap', e = .returned (.slice ao' n cap') ∧ Rd w' ao' n g ∧ Below w.heap.size w w' ∧
    (ao.isSome = true → ao' = some ⟨w.heap.size, 0, none⟩ ∧ cap' = n ∧ w'.rowIs w.heap.size t n g ∧ w'.heap.size = w.heap.size + 1)

theorem Rd.none_zero {w : World} {n : Nat} {g : Nat → Value} (h : Rd w none n g) : n = 0 := by
  by_cases e : n = 0
  · exact e
  · obtain ⟨_, _, h1, _⟩ := h 0 (by omega)
    cases h1

set_option maxHeartbeats 1000000 in
theorem cloneFloats_any (w : World) (ao : Option Addr) (n cap : Nat) (F : Nat → Nat) (hc : Rd w ao n (fun i => .float .f64 (F i))) (hn : n ≤ 1048576) :
    Calls Try.prog 19 #[.slice ao n cap] w fun e w' => Cloned w w' ao n 32 (fun i => .float .f64 (F i)) e := by
  refine calls_of_k fun R hR => ?_
  have hnil := fun w => Lib.run_eql_slice_nil (P := Try.prog) w 30 32 ao n cap 0 0 Try.underlying30
  cases ao with
  | none =>
    have e := hc.none_zero
    subst e
    go_enter Try.func19, Try.ntmps19
    go_wp2
    exact hR.out _ _ ⟨none, 0, rfl, fun i hi => by omega, Below.refl _ _, fun h => by cases h⟩
  | some a =>
    have hmk := run_make_row' (P := Try.prog) 30 32 (.float .f64 0) 8 Try.underlying30 Try.info32 rfl .i64 .i64 n (by omega) (by omega)
    simp only [Option.isNone_some] at hnil
    go_enter Try.func19, Try.ntmps19
    go_wp2
    clear hmk hnil
    go_loopg [4] n (fun g i wr => ∃ k : Nat, k + g = n ∧ i = .int .i64 k ∧ Filling w wr w.heap.size 32 n k (fun i => .float .f64 (F i)) (.float .f64 0))
    case atStart => exact ⟨0, by omega, rfl, Filling.start _ _ _ _ _⟩
    case round =>
      obtain ⟨k, hk, rfl, hf⟩ := hrel
      by_cases hlt : k < n
      · obtain ⟨b, off, e, hcell⟩ := hc k hlt
        cases e
        have c1 := (hf.below.cell (cell_lt hcell)).trans hcell
        have q1 := hf.cur.cell hlt
        have q2 := hf.cur.frozen k
        have HS := hide hf.step
        clear hf hcell
        go_wp2
        go_roundg (n - (k + 1))
        case measure => omega
        case rel => exact ⟨k + 1, by omega, by go_num, HS.out⟩
      · have e : k = n := by omega
        subst e
        go_wp2
        exact hR.out _ _ ⟨_, _, rfl, rd_of_row hf.fin, hf.below, fun _ => ⟨rfl, rfl, hf.fin, hf.size⟩⟩

theorem Try.info3 : (Try.prog.info? 3).map (fun i => (i.zero, i.size, i.bytes)) = some (some (.int .i64 0), 1, 8) := by kernel_rfl
theorem Try.info42 : (Try.prog.info? 42).map (fun i => (i.zero, i.size, i.bytes)) = some (some (.int .i16 0), 1, 2) := by kernel_rfl

set_option maxHeartbeats 1000000 in
theorem cloneInts_any (w : World) (ao : Option Addr) (n cap : Nat) (F : Nat → Int) (hc : Rd w ao n (fun i => .int .i64 (F i))) (hn : n ≤ 1048576) :
    Calls Try.prog 25 #[.slice ao n cap] w fun e w' => Cloned w w' ao n 3 (fun i => .int .i64 (F i)) e := by
  refine calls_of_k fun R hR => ?_
  have hnil := fun w => Lib.run_eql_slice_nil (P := Try.prog) w 36 3 ao n cap 0 0 Try.underlying36
  cases ao with
  | none =>
    have e := hc.none_zero
    subst e
    go_enter Try.func25, Try.ntmps25
    go_wp2
    exact hR.out _ _ ⟨none, 0, rfl, fun i hi => by omega, Below.refl _ _, fun h => by cases h⟩
  | some a =>
    have hmk := run_make_row' (P := Try.prog) 36 3 (.int .i64 0) 8 Try.underlying36 Try.info3 rfl .i64 .i64 n (by omega) (by omega)
    simp only [Option.isNone_some] at hnil
    go_enter Try.func25, Try.ntmps25
    go_wp2
    clear hmk hnil
    go_loopg [4] n (fun g i wr => ∃ k : Nat, k + g = n ∧ i = .int .i64 k ∧ Filling w wr w.heap.size 3 n k (fun i => .int .i64 (F i)) (.int .i64 0))
    case atStart => exact ⟨0, by omega, rfl, Filling.start _ _ _ _ _⟩
    case round =>
      obtain ⟨k, hk, rfl, hf⟩ := hrel
      by_cases hlt : k < n
      · obtain ⟨b, off, e, hcell⟩ := hc k hlt
        cases e
        have c1 := (hf.below.cell (cell_lt hcell)).trans hcell
        have q1 := hf.cur.cell hlt
        have q2 := hf.cur.frozen k
        have HS := hide hf.step
        clear hf hcell
        go_wp2
        go_roundg (n - (k + 1))
        case measure => omega
        case rel => exact ⟨k + 1, by omega, by go_num, HS.out⟩
      · have e : k = n := by omega
        subst e
        go_wp2
        exact hR.out _ _ ⟨_, _, rfl, rd_of_row hf.fin, hf.below, fun _ => ⟨rfl, rfl, hf.fin, hf.size⟩⟩

set_option maxHeartbeats 1000000 in
theorem cloneInt16s_any (w : World) (ao : Option Addr) (n cap : Nat) (F : Nat → Int) (hc : Rd w ao n (fun i => .int .i16 (F i))) (hn : n ≤ 1048576) :
    Calls Try.prog 29 #[.slice ao n cap] w fun e w' => Cloned w w' ao n 42 (fun i => .int .i16 (F i)) e := by
  refine calls_of_k fun R hR => ?_
  have hnil := fun w => Lib.run_eql_slice_nil (P := Try.prog) w 41 42 ao n cap 0 0 Try.underlying41
  cases ao with
  | none =>
    have e := hc.none_zero
    subst e
    go_enter Try.func29, Try.ntmps29
    go_wp2
    exact hR.out _ _ ⟨none, 0, rfl, fun i hi => by omega, Below.refl _ _, fun h => by cases h⟩
  | some a =>
    have hmk := run_make_row' (P := Try.prog) 41 42 (.int .i16 0) 2 Try.underlying41 Try.info42 rfl .i64 .i64 n (by omega) (by omega)
    simp only [Option.isNone_some] at hnil
    go_enter Try.func29, Try.ntmps29
    go_wp2
    clear hmk hnil
    go_loopg [4] n (fun g i wr => ∃ k : Nat, k + g = n ∧ i = .int .i64 k ∧ Filling w wr w.heap.size 42 n k (fun i => .int .i16 (F i)) (.int .i16 0))
    case atStart => exact ⟨0, by omega, rfl, Filling.start _ _ _ _ _⟩
    case round =>
      obtain ⟨k, hk, rfl, hf⟩ := hrel
      by_cases hlt : k < n
      · obtain ⟨b, off, e, hcell⟩ := hc k hlt
        cases e
        have c1 := (hf.below.cell (cell_lt hcell)).trans hcell
        have q1 := hf.cur.cell hlt
        have q2 := hf.cur.frozen k
        have HS := hide hf.step
        clear hf hcell
        go_wp2
        go_roundg (n - (k + 1))
        case measure => omega
        case rel => exact ⟨k + 1, by omega, by go_num, HS.out⟩
      · have e : k = n := by omega
        subst e
        go_wp2
        exact hR.out _ _ ⟨_, _, rfl, rd_of_row hf.fin, hf.below, fun _ => ⟨rfl, rfl, hf.fin, hf.size⟩⟩

end Go.Proofs.Qxb6000633a
