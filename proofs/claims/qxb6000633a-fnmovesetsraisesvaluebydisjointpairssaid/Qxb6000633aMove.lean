/-
  move.
-/
import Derived.Test.Qxb6000633aAfter
namespace Go.Proofs.Qxb6000633a
open Go.RowKit
attribute [local go_sem] run_store_float

section
variable {c : Cfg} {w : World} {s : St}
theorem Climb.cpCH (h : Climb c w s) {j : Nat} (hj : j < c.n) (F : Nat → Nat) : Climb c (cpRow w (c.CH + 1 + j) c.lv (fun k => .float .f64 (F k))) { s with ch := upd s.ch j F } := by
  have p := h.sep
  have hr := h.CH.row j hj
  have e : ∀ k, k ≠ c.CH + 1 + j → (cpRow w (c.CH + 1 + j) c.lv (fun k => .float .f64 (F k))).heap[k]? = w.heap[k]? := fun k hk => cpRow_other _ _ _ _ hk
  have c1 := p.cu
  have c2 := p.cd
  refine ⟨p, h.S.of_block (e _ (row_ne h.S hr (by decide))), h.AL.of_block (e _ (p.alo j hj).1), ⟨h.CH.out.of_block (e _ (row_ne h.CH.out hr (by decide))), fun i hi => ?_⟩, h.UP.only e (row_ne h.UP.out hr (by decide)) (fun i hi => by omega), h.DN.only e (row_ne h.DN.out hr (by decide)) (fun i hi => by omega), h.Z.of_block (e _ (row_ne h.Z hr (by decide))), h.R.of_block (e _ (p.rlo j hj).1), h.G.of_block (e _ (row_ne h.G hr (by decide))), h.LO.of_block (e _ (row_ne h.LO hr (by decide))), h.U.of_block (e _ (row_ne h.U hr (by decide))), h.MZ.of_block (e _ (row_ne h.MZ hr (by decide))), h.MR.of_block (e _ (p.mlo j hj).1)⟩
  by_cases ei : i = j
  · subst ei
    refine (cpRow_row _ hr).congr fun k hk => ?_
    show _ = Value.float .f64 (upd s.ch i F i k)
    rw [upd_same]
  · refine ((h.CH.row i hi).of_block (e _ (by omega))).congr fun k hk => ?_
    show _ = Value.float .f64 (upd s.ch j F i k)
    rw [upd_other _ _ ei]
end

set_option maxHeartbeats 1000000 in
set_option maxRecDepth 100000 in
theorem move_any (c : Cfg) (w : World) (s : St) (f t dd x y : Nat) (h : Climb c w s) (_hn : c.n ≤ 1048576) (hf : f < c.n) (ht : t < c.n) (hft : f ≠ t)
    (hx : Ieee.double.sub (s.al f) dd = some x) (hy : Ieee.double.add (s.al t) dd = some y) :
    Calls Try.prog 53 #[.pointer (some ⟨c.S, 0, none⟩), .int .i64 f, .int .i64 t, .float .f64 dd] w fun e w' => e = .returned (.tuple #[]) ∧ Climb c w' { s with al := upd (upd s.al f x) t y, ch := upd (upd s.ch f (s.dn f)) t (s.up t) } ∧ Touch (own c) w w' := by
  refine calls_of_k fun R hR => ?_
  have k1 := h.f1
  have a1 := h.AL.cell hf
  have a2 := h.AL.frozen f
  have b1 := h.AL.cell ht
  have b2 := h.AL.frozen t
  have r1 := fun w => run_sub w _ _ _ hx
  have r2 := fun w => run_add w _ _ _ hy
  have oA := own_AL c
  have HC := hide ((h.setAL f x).setAL t y).drew
  have HT := hide (((Touch.refl (own c) w).setCell (p := ⟨c.AL, f, none⟩) oA (.float .f64 x)).setCell (p := ⟨c.AL, t, none⟩) oA (.float .f64 y)).drew
  clear h hx hy
  go_enter Try.func53, Try.ntmps53
  go_wp2
  go_region
  clear k1 a1 a2 b1 b2 r1 r2
  generalize World.drew _ = w1 at HC HT ⊢
  have k2 := HC.out.f2
  have k4 := HC.out.f4
  have c1 := HC.out.CH.out.cell hf
  have d1 := HC.out.DN.out.cell hf
  have hcp := run_copy_rows (w := w1.drew) 30 3 32 Try.underlying30 Try.size32 (HC.out.drew.CH.row f hf) (HC.out.drew.DN.row f hf) (fun i => rfl)
  rw [cpRow_drew] at hcp
  have HC2 := hide (HC.out.cpCH hf (s.dn f)).drew
  have HT2 := hide (cpRow_touch HT.out (own_CH c hf) c.lv (fun k => .float .f64 (s.dn f k))).drew
  clear HC HT
  go_wp2
  go_region
  clear hcp k2 k4 c1 d1
  generalize World.drew _ = w2 at HC2 HT2 ⊢
  have k2 := HC2.out.f2
  have k3 := HC2.out.f3
  have c1 := HC2.out.CH.out.cell ht
  have d1 := HC2.out.UP.out.cell ht
  have hcp := run_copy_rows (w := w2.drew) 30 3 32 Try.underlying30 Try.size32 (HC2.out.drew.CH.row t ht) (HC2.out.drew.UP.row t ht) (fun i => rfl)
  rw [cpRow_drew] at hcp
  have HC3 := hide (HC2.out.cpCH ht (s.up t)).drew
  have HT3 := hide (cpRow_touch HT2.out (own_CH c ht) c.lv (fun k => .float .f64 (s.up t k))).drew
  clear HC2 HT2
  go_wp2
  go_region
  clear hcp k2 k3 c1 d1
  go_wp2
  go_end0
  exact hR.out _ _ ⟨rfl, HC3.out, HT3.out⟩

end Go.Proofs.Qxb6000633a
