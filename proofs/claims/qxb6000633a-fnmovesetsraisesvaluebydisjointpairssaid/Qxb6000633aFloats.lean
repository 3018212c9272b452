/-
  Tables of floats that the call makes: zzFloats.
-/
import Derived.Test.Qxb6000633aBase
import Derived.Deep.LoopGhost
namespace Go.Proofs.Qxb6000633a
open Go.RowKit
attribute [local go_sem] run_store_float

theorem Try.info30 : (Try.prog.info? 30).map (fun i => (i.zero, i.size, i.bytes)) = some (some (.slice none 0 0), 1, 24) := by kernel_rfl
theorem Try.info32 : (Try.prog.info? 32).map (fun i => (i.zero, i.size, i.bytes)) = some (some (.float .f64 0), 1, 8) := by kernel_rfl

/-- a table of floats: the outer block B, row j in block B + 1 + j -/
structure FTab (w : World) (B n lv : Nat) (F : Nat → Nat → Nat) : Prop where
  out : w.rowIs B 30 n (fun j => .slice (some ⟨B + 1 + j, 0, none⟩) lv lv)
  row : ∀ j, j < n → w.rowIs (B + 1 + j) 32 lv (fun k => .float .f64 (F j k))

/-- the first j rows are made -/
structure FMid (w0 w : World) (B n lv j : Nat) (F : Nat → Nat → Nat) : Prop where
  size : w.heap.size = B + 1 + j
  below : Below B w0 w
  out : w.rowIs B 30 n (fun i => if i < j then .slice (some ⟨B + 1 + i, 0, none⟩) lv lv else .slice none 0 0)
  row : ∀ i, i < j → w.rowIs (B + 1 + i) 32 lv (fun k => .float .f64 (F i k))

/-- row j is being filled -/
structure FRow (w0 w : World) (B n lv j k : Nat) (F : Nat → Nat → Nat) : Prop where
  size : w.heap.size = B + 1 + j + 1
  below : Below B w0 w
  out : w.rowIs B 30 n (fun i => if i < j then .slice (some ⟨B + 1 + i, 0, none⟩) lv lv else .slice none 0 0)
  row : ∀ i, i < j → w.rowIs (B + 1 + i) 32 lv (fun k => .float .f64 (F i k))
  cur : w.rowIs (B + 1 + j) 32 lv (fun q => if q < k then .float .f64 (F j q) else .float .f64 0)

theorem FMid.start (w : World) (n lv : Nat) (F : Nat → Nat → Nat) : FMid w (w.alloc (.cells (madeCells #[.slice none 0 0] n) 30)) w.heap.size n lv 0 F :=
  ⟨by simp, (Below.refl _ _).alloc (Nat.le_refl _) _, (World.rowIs_made w _ n 30).congr fun i _ => by simp, fun i hi => by omega⟩

theorem FMid.begin {w0 w : World} {B n lv j : Nat} {F : Nat → Nat → Nat} (h : FMid w0 w B n lv j F) (hB : B = w0.heap.size) :
    FRow w0 (w.alloc (.cells (madeCells #[.float .f64 0] lv) 32)) B n lv j 0 F := by
  have hs := h.size
  refine ⟨by simp [hs], h.below.alloc (by omega) _, h.out.alloc _, fun i hi => (h.row i hi).alloc _, ?_⟩
  have := World.rowIs_made w (.float .f64 0) lv 32
  rw [hs] at this
  exact this.congr fun i _ => by simp

theorem FRow.step {w0 w : World} {B n lv j k : Nat} {F : Nat → Nat → Nat} (h : FRow w0 w B n lv j k F) :
    FRow w0 (w.setCell ⟨B + 1 + j, k, none⟩ (.float .f64 (F j k))) B n lv j (k + 1) F := by
  refine ⟨by simpa using h.size, h.below.setCell (by show B ≤ B + 1 + j; omega) _, h.out.setOther (by show B ≠ B + 1 + j; omega) _, fun i hi => (h.row i hi).setOther (by show B + 1 + i ≠ B + 1 + j; omega) _, ?_⟩
  refine (h.cur.set k _).congr fun i hi => ?_
  by_cases e : i = k
  · subst e; simp
  · rw [if_neg e]
    by_cases e' : i < k
    · rw [if_pos e', if_pos (by omega)]
    · rw [if_neg e', if_neg (by omega)]

theorem FRow.done {w0 w : World} {B n lv j : Nat} {F : Nat → Nat → Nat} (h : FRow w0 w B n lv j lv F) :
    FMid w0 (w.setCell ⟨B, j, none⟩ (.slice (some ⟨B + 1 + j, 0, none⟩) lv lv)) B n lv (j + 1) F := by
  refine ⟨by simp [h.size]; omega, h.below.setCell (Nat.le_refl _) _, ?_, fun i hi => ?_⟩
  · refine (h.out.set j _).congr fun i hi => ?_
    by_cases e : i = j
    · subst e; simp
    · rw [if_neg e]
      by_cases e' : i < j
      · rw [if_pos e', if_pos (by omega)]
      · rw [if_neg e', if_neg (by omega)]
  · by_cases e : i = j
    · subst e
      exact (h.cur.congr fun q hq => by rw [if_pos hq]).setOther (by show B + 1 + i ≠ B; omega) _
    · exact (h.row i (by omega)).setOther (by show B + 1 + i ≠ B; omega) _

theorem FMid.fin {w0 w : World} {B n lv : Nat} {F : Nat → Nat → Nat} (h : FMid w0 w B n lv n F) : FTab w B n lv F :=
  ⟨h.out.congr fun i hi => by rw [if_pos hi], h.row⟩

set_option maxHeartbeats 1000000 in
theorem floats_any (w : World) (ao : Option Addr) (n cap lv : Nat) (A : Nat → Option Addr) (L C : Nat → Nat) (M : Nat → Nat → Int) (hc : Codes w ao n A L C M)
    (el : ∀ j, j < n → L j = lv) (hn : n ≤ 1048576) (hlv : lv ≤ 1048576) :
    Calls Try.prog 14 #[.slice ao n cap, .int .i64 n, .int .i64 lv] w fun e w' => e = .returned (.slice (some ⟨w.heap.size, 0, none⟩) n n) ∧ FTab w' w.heap.size n lv (fun j k => cf (M j k)) ∧
      Below w.heap.size w w' ∧ w'.heap.size = w.heap.size + 1 + n := by
  refine calls_of_k fun R hR => ?_
  have hmk1 := run_make_row' (P := Try.prog) 26 30 (.slice none 0 0) 24 Try.underlying26 Try.info30 rfl .i64 .i64 n (by omega) (by omega)
  have hmk2 := run_make_row' (P := Try.prog) 30 32 (.float .f64 0) 8 Try.underlying30 Try.info32 rfl .i64 .i64 lv (by omega) (by omega)
  have E := hide el
  clear el
  go_enter Try.func14, Try.ntmps14
  go_wp2_with fail
  clear hmk1
  go_loopg [8] n (fun g i wr => ∃ j : Nat, j + g = n ∧ i = .int .i64 j ∧ FMid w wr w.heap.size n lv j (fun j k => cf (M j k)))
  case atStart => exact ⟨0, by omega, rfl, FMid.start _ _ _ _⟩
  case round =>
    obtain ⟨j, hj, rfl, hmid⟩ := hrel
    by_cases hlt : j < n
    · have HM := hide (hmid.begin rfl)
      have hs := hmid.size
      clear hmid
      go_wp2_with fail
      clear hmk2 hs
      go_loopg [10] lv (fun g i wr => ∃ k : Nat, k + g = lv ∧ i = .int .i64 k ∧ FRow w wr w.heap.size n lv j k (fun j k => cf (M j k)))
      case atStart => exact ⟨0, by omega, rfl, HM.out⟩
      case round =>
        obtain ⟨k, hk, rfl, hrow⟩ := hrel
        clear HM
        by_cases hkl : k < lv
        · obtain ⟨x1, o1, y1, p1, rfl, c1, d1, r1, s1⟩ := hc.at E.out hlt hkl
          have c1' := (hrow.below.cell (cell_lt c1)).trans c1
          have d1' := (hrow.below.cell (cell_lt d1)).trans d1
          have q1 := hrow.cur.cell hkl
          have q2 := hrow.cur.frozen k
          have HS := hide hrow.step
          clear hrow c1 d1 hc
          go_wp2_with (go_at_call 39; refine (chance_any _ r1 s1 _).mono ?_; rintro e w' ⟨rfl, rfl⟩)
          go_roundg (lv - (k + 1))
          case measure => omega
          case rel => exact ⟨k + 1, by omega, by go_num, HS.out⟩
        · have e : k = lv := by omega
          subst e
          have q1 := hrow.out.cell hlt
          have q2 := hrow.out.frozen j
          have HS := hide hrow.done
          clear hrow
          go_wp2_with fail
          go_roundg (n - (j + 1))
          case measure => omega
          case rel => exact ⟨j + 1, by omega, by go_num, HS.out⟩
    · have e : j = n := by omega
      subst e
      go_wp2_with fail
      exact hR.out _ _ ⟨rfl, hmid.fin, hmid.below, hmid.size⟩

end Go.Proofs.Qxb6000633a
