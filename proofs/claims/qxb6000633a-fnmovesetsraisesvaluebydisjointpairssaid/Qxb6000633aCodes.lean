/-
  zzCloneCodes.
-/
import Derived.Test.Qxb6000633aBase
import Derived.Deep.LoopGhost
namespace Go.Proofs.Qxb6000633a
open Go.RowKit

theorem Try.info51 : (Try.prog.info? 51).map (fun i => (i.zero, i.size, i.bytes)) = some (some (.slice none 0 0), 1, 24) := by kernel_rfl
theorem Try.info5 : (Try.prog.info? 5).map (fun i => (i.zero, i.size, i.bytes)) = some (some (.int .u8 0), 1, 1) := by kernel_rfl

/-- a row read again: v is a slice of l codes, in blocks above B and below hi -/
def RowV (w : World) (B hi : Nat) (v : Value) (l : Nat) (m : Nat → Int) : Prop :=
  ∃ a c, v = .slice a l c ∧ ∀ k, k < l → ∃ r off, a = some ⟨r, off, none⟩ ∧ B < r ∧ r < hi ∧ w.cell? ⟨r, off + k, none⟩ = some (.int .u8 (m k))

structure CMid (w0 w : World) (B n j : Nat) (L : Nat → Nat) (M : Nat → Nat → Int) (V : Nat → Value) : Prop where
  size : B < w.heap.size
  below : Below B w0 w
  out : w.rowIs B 51 n V
  row : ∀ i, i < j → RowV w B w.heap.size (V i) (L i) (M i)
  rest : ∀ i, j ≤ i → V i = .slice none 0 0

/-- row j is being cloned into block r -/
structure CRow (w0 w : World) (B n j k r : Nat) (L : Nat → Nat) (M : Nat → Nat → Int) (V : Nat → Value) : Prop where
  size : r < w.heap.size
  above : B < r
  below : Below B w0 w
  out : w.rowIs B 51 n V
  row : ∀ i, i < j → RowV w B r (V i) (L i) (M i)
  rest : ∀ i, j ≤ i → V i = .slice none 0 0
  cur : w.rowIs r 5 (L j) (fun q => if q < k then .int .u8 (M j q) else .int .u8 0)

theorem RowV.of_cells {w w' : World} {B hi hi' : Nat} {v : Value} {l : Nat} {m : Nat → Int} (h : RowV w B hi v l m) (hh : hi ≤ hi') (e : ∀ a : Addr, B < a.block → a.block < hi → a.block < w.heap.size → w'.cell? a = w.cell? a) : RowV w' B hi' v l m := by
  obtain ⟨a, c, h1, h2⟩ := h
  refine ⟨a, c, h1, fun k hk => ?_⟩
  obtain ⟨r, off, h3, h4, h5, h6⟩ := h2 k hk
  exact ⟨r, off, h3, h4, by omega, (e ⟨r, off + k, none⟩ h4 h5 (cell_lt h6)).trans h6⟩

theorem cell_setCell_block {w : World} {a p : Addr} {v : Value} (h : a.block ≠ p.block) : (w.setCell p v).cell? a = w.cell? a :=
  World.cell?_of_block (w := w) (Below.heap_setCell w p v a.block h)
theorem cell_alloc_lt {w : World} {a : Addr} {o : Obj} (h : a.block < w.heap.size) : (w.alloc o).cell? a = w.cell? a :=
  World.cell?_of_block (w := w) (Below.heap_alloc w o a.block h)

theorem CMid.start (w : World) (n : Nat) (L : Nat → Nat) (M : Nat → Nat → Int) : CMid w (w.alloc (.cells (madeCells #[.slice none 0 0] n) 51)) w.heap.size n 0 L M (fun _ => .slice none 0 0) :=
  ⟨by simp, (Below.refl _ _).alloc (Nat.le_refl _) _, World.rowIs_made w _ n 51, fun i hi => by omega, fun _ _ => rfl⟩

/-- a nil row stays nil -/
theorem CMid.skip {w0 w : World} {B n j : Nat} {L : Nat → Nat} {M : Nat → Nat → Int} {V : Nat → Value} (h : CMid w0 w B n j L M V) (hl : L j = 0) : CMid w0 w B n (j + 1) L M V := by
  refine ⟨h.size, h.below, h.out, fun i hi => ?_, fun i hi => h.rest i (by omega)⟩
  by_cases e : i = j
  · subst e
    exact ⟨none, 0, by rw [h.rest i (Nat.le_refl _), hl], fun k hk => by omega⟩
  · exact h.row i (by omega)

theorem CMid.begin {w0 w : World} {B n j : Nat} {L : Nat → Nat} {M : Nat → Nat → Int} {V : Nat → Value} (h : CMid w0 w B n j L M V) :
    CRow w0 (w.alloc (.cells (madeCells #[.int .u8 0] (L j)) 5)) B n j 0 w.heap.size L M V := by
  have hs := h.size
  exact ⟨by simp, hs, h.below.alloc (by omega) _, h.out.alloc _, fun i hi => (h.row i hi).of_cells (Nat.le_refl _) fun a h1 h2 h3 => cell_alloc_lt h3, h.rest, (World.rowIs_made w _ (L j) 5).congr fun i _ => by simp⟩

theorem CRow.step {w0 w : World} {B n j k r : Nat} {L : Nat → Nat} {M : Nat → Nat → Int} {V : Nat → Value} (h : CRow w0 w B n j k r L M V) :
    CRow w0 (w.setCell ⟨r, k, none⟩ (.int .u8 (M j k))) B n j (k + 1) r L M V := by
  have ha := h.above
  refine ⟨by simpa using h.size, ha, h.below.setCell (by show B ≤ r; omega) _, h.out.setOther (by show B ≠ r; omega) _, fun i hi => (h.row i hi).of_cells (Nat.le_refl _) fun a h1 h2 _ => cell_setCell_block (by show a.block ≠ r; omega), h.rest, ?_⟩
  refine (h.cur.set k _).congr fun i hi => ?_
  by_cases e : i = k
  · subst e; simp
  · rw [if_neg e]
    by_cases e' : i < k
    · rw [if_pos e', if_pos (by omega)]
    · rw [if_neg e', if_neg (by omega)]

theorem CRow.done {w0 w : World} {B n j r : Nat} {L : Nat → Nat} {M : Nat → Nat → Int} {V : Nat → Value} (h : CRow w0 w B n j (L j) r L M V) :
    CMid w0 (w.setCell ⟨B, j, none⟩ (.slice (some ⟨r, 0, none⟩) (L j) (L j))) B n (j + 1) L M (fun i => if i = j then .slice (some ⟨r, 0, none⟩) (L j) (L j) else V i) := by
  have ha := h.above
  have hs := h.size
  refine ⟨by simp; omega, h.below.setCell (Nat.le_refl _) _, h.out.set j _, fun i hi => ?_, fun i hi => by rw [if_neg (by omega)]; exact h.rest i (by omega)⟩
  by_cases e : i = j
  · subst e
    rw [if_pos rfl]
    refine ⟨_, _, rfl, fun k hk => ⟨r, 0, rfl, ha, by simpa using hs, ?_⟩⟩
    rw [cell_setCell_block (by show r ≠ B; omega), Nat.zero_add, h.cur.cell hk, if_pos hk]
  · rw [if_neg e]
    exact (h.row i (by omega)).of_cells (by simp; omega) fun a h1 h2 _ => cell_setCell_block (by show a.block ≠ B; omega)

def sA : Value → Option Addr | .slice a _ _ => a | _ => none
def sC : Value → Nat | .slice _ _ c => c | _ => 0

theorem CMid.fin {w0 w : World} {B n : Nat} {L : Nat → Nat} {M : Nat → Nat → Int} {V : Nat → Value} (h : CMid w0 w B n n L M V)
    (hr : ∀ j k, j < n → k < L j → 0 ≤ M j k ∧ M j k < 256) (hn : n ≤ 9223372036854775807) (hl : ∀ j, j < n → L j ≤ 9223372036854775807) :
    Codes w (some ⟨B, 0, none⟩) n (fun j => sA (V j)) L (fun j => sC (V j)) M := by
  refine ⟨fun j hj => ⟨B, 0, rfl, ?_⟩, fun j hj k hk => ?_, hr, hn, hl⟩
  · rw [Nat.zero_add, h.out.cell hj]
    obtain ⟨a, c, h1, _⟩ := h.row j hj
    show some (V j) = some (.slice (sA (V j)) (L j) (sC (V j)))
    rw [h1]; rfl
  · obtain ⟨a, c, h1, h2⟩ := h.row j hj
    obtain ⟨r, off, h3, _, _, h4⟩ := h2 k hk
    exact ⟨r, off, by show sA (V j) = _; rw [h1]; exact h3, h4⟩

theorem Codes.nil_row {w : World} {ao : Option Addr} {n : Nat} {A : Nat → Option Addr} {L C : Nat → Nat} {M : Nat → Nat → Int} (h : Codes w ao n A L C M) {j : Nat} (hj : j < n) (e : A j = none) : L j = 0 := by
  by_cases e0 : L j = 0
  · exact e0
  · obtain ⟨_, _, h1, _⟩ := h.row j hj 0 (by omega)
    rw [e] at h1; cases h1

set_option maxHeartbeats 1000000 in
theorem cloneCodes_any (w : World) (ao : Option Addr) (n cap : Nat) (A : Nat → Option Addr) (L C : Nat → Nat) (M : Nat → Nat → Int) (hc : Codes w ao n A L C M)
    (hn : n ≤ 1048576) (hl : ∀ j, j < n → L j ≤ 1048576) :
    Calls Try.prog 12 #[.slice ao n cap] w fun e w' => ∃ ao' cap' A' C', e = .returned (.slice ao' n cap') ∧ Codes w' ao' n A' L C' M ∧ Below w.heap.size w w' := by
  refine calls_of_k fun R hR => ?_
  have hnil := fun w => Lib.run_eql_slice_nil (P := Try.prog) w 22 51 ao n cap 0 0 Try.underlying22
  have hnil2 := fun w a n cap => run_neq_slice_nil_any (P := Try.prog) w 51 5 a n cap 0 0 Try.underlying51
  cases ao with
  | none =>
    go_enter Try.func12, Try.ntmps12
    go_wp2
    have e : n = 0 := by
      by_cases e : n = 0
      · exact e
      · obtain ⟨_, _, h1, _⟩ := hc.out 0 (by omega)
        cases h1
    subst e
    exact hR.out _ _ ⟨none, 0, A, C, rfl, ⟨fun i hi => by omega, fun j hj => by omega, fun j k hj => by omega, by omega, fun j hj => by omega⟩, Below.refl _ _⟩
  | some a =>
    have hmk := run_make_row' (P := Try.prog) 22 51 (.slice none 0 0) 24 Try.underlying22 Try.info51 rfl .i64 .i64 n (by omega) (by omega)
    simp only [Option.isNone_some] at hnil
    have HL := hide hl
    clear hl
    go_enter Try.func12, Try.ntmps12
    go_wp2
    clear hmk hnil
    go_loopg [4] n (fun g i wr => ∃ j : Nat, ∃ V, j + g = n ∧ i = .int .i64 j ∧ CMid w wr w.heap.size n j L M V)
    case atStart => exact ⟨0, _, by omega, rfl, CMid.start _ _ _ _⟩
    case round =>
      obtain ⟨j, V, hj, rfl, hmid⟩ := hrel
      by_cases hlt : j < n
      · obtain ⟨b, off, e, hcell⟩ := hc.out j hlt
        cases e
        have c1 : wr.cell? ⟨b, off + j, none⟩ = some (.slice (A j) (L j) (C j)) := (hmid.below.cell (cell_lt hcell)).trans hcell
        have hb := HL.out j hlt
        cases hA : A j with
        | none =>
          have h0 := hc.nil_row hlt hA
          rw [hA] at c1
          have HS := hide (hmid.skip h0)
          clear h0 hA hmid hcell
          go_wp2
          go_roundg (n - (j + 1))
          case measure => omega
          case rel => exact ⟨j + 1, V, by omega, by go_num, HS.out⟩
        | some x =>
          rw [hA] at c1
          have hmk := run_make_row' (P := Try.prog) 51 5 (.int .u8 0) 1 Try.underlying51 Try.info5 rfl .i64 .i64 (L j) (by omega) (by omega)
          have HS := hide hmid.begin
          have hbel : b < wr.heap.size := cell_lt c1
          have HA := hide hA
          have hw0 := hide hcell
          clear hmid hcell hA
          go_wp2
          clear hmk c1 hbel
          obtain ⟨wo, rfl⟩ : ∃ wo : World, wo = wr := ⟨_, rfl⟩
          go_loopg [6] (L j) (fun g i wr => ∃ k : Nat, k + g = L j ∧ i = .int .i64 k ∧ CRow w wr w.heap.size n j k wo.heap.size L M V)
          case atStart => exact ⟨0, by omega, rfl, HS.out⟩
          case round =>
            obtain ⟨k, hk, rfl, hrow⟩ := hrel
            have c1 : wr.cell? ⟨b, off + j, none⟩ = some (.slice (A j) (L j) (C j)) := (hrow.below.cell (cell_lt hw0.out)).trans hw0.out
            rw [HA.out] at c1
            by_cases hkl : k < L j
            · obtain ⟨y, p, e, d⟩ := hc.row j hlt k hkl
              rw [HA.out] at e
              cases e
              have d1 : wr.cell? ⟨y, p + k, none⟩ = some (.int .u8 (M j k)) := (hrow.below.cell (cell_lt d)).trans d
              have q1 := hrow.cur.cell hkl
              have q2 := hrow.cur.frozen k
              have HN := hide hrow.step
              clear hrow d
              go_wp2
              go_roundg (L j - (k + 1))
              case measure => omega
              case rel => exact ⟨k + 1, by omega, by go_num, HN.out⟩
            · have e : k = L j := by omega
              have q1 := hrow.out.cell hlt
              have q2 := hrow.out.frozen j
              rw [e] at hrow
              have HN := hide hrow.done
              have HK := hide e
              clear hrow e
              go_wp2
              go_roundg (n - (j + 1))
              case measure => omega
              case rel => exact ⟨j + 1, _, by omega, by go_num, HN.out⟩
      · have e : j = n := by omega
        subst e
        go_wp2
        exact hR.out _ _ ⟨_, _, _, _, rfl, hmid.fin hc.rng hc.n63 hc.l63, hmid.below⟩

end Go.Proofs.Qxb6000633a
