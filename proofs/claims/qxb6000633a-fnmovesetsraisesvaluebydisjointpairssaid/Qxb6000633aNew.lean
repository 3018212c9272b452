/-
  ZZNewClimb.
-/
import Derived.Test.Qxb6000633aDraw
namespace Go.Proofs.Qxb6000633a
open Go.RowKit
attribute [local go_sem] run_store_float

theorem Try.info56 : (Try.prog.info? 56).map (fun i => (i.zero, i.size, i.bytes)) = some (some (.agg #[.int .i64 0, .float .f64 0]), 2, 16) := by kernel_rfl
theorem Try.info4 : (Try.prog.info? 4).map (fun i => (i.zero, i.size, i.bytes)) = some (some (.bool false), 1, 1) := by kernel_rfl

theorem run_make_gain (n : Nat) (h : n ≤ 1048576) (w : World) : (Instr.makeSlice 54 (.int .i64 (n : Int)) (.int .i64 (n : Int))).run Try.prog w =
    .ok (.slice (some ⟨w.heap.size, 0, none⟩) n n) (w.alloc (.cells (madeCells #[.int .i64 0, .float .f64 0] (n * 2)) 56)) := by
  obtain ⟨i, hi, hzz⟩ := Option.map_eq_some_iff.1 Try.info56
  simp only [Prod.mk.injEq] at hzz
  obtain ⟨hz, hs, hb⟩ := hzz
  have hr := run_make (P := Try.prog) w 54 56 i (.agg #[.int .i64 0, .float .f64 0]) Try.underlying54 hi hz .i64 .i64 n n (by omega) (Int.le_refl _) (by rw [hb]; omega) (by omega)
  simp only [Int.toNat_natCast, hs] at hr
  exact hr

/-- the gains as far as they are laid -/
structure GMid (w0 w : World) (B G ng k : Nat) (J : Nat → Int) (V : Nat → Nat) : Prop where
  size : w.heap.size = G + 1
  lo : B ≤ G
  below : Below B w0 w
  row : w.rowIs G 56 (2 * ng) (gcell (mix k J (fun _ => 0)) (mix k V (fun _ => 0)))

theorem GMid.start {B : Nat} {w0 w : World} (h : Below B w0 w) (hB : B ≤ w.heap.size) (ng : Nat) (J : Nat → Int) (V : Nat → Nat) :
    GMid w0 (w.alloc (.cells (madeCells #[.int .i64 0, .float .f64 0] (ng * 2)) 56)) B w.heap.size ng 0 J V := by
  refine ⟨by simp, hB, h.alloc hB _, ?_⟩
  rw [Nat.mul_comm 2 ng, mix_zero, mix_zero]
  refine ⟨_, Deep.blk_alloc_new _ _, size_madeCells _ _, fun i hi => ?_⟩
  have h2 : i % 2 = 0 ∨ i % 2 = 1 := by omega
  rcases h2 with h2 | h2 <;> simp [madeCells, hi, gcell, h2]

theorem mix_at {α : Type} {k i : Nat} (f g : Nat → α) : mix (k + 1) f g i = if i = k then f k else mix k f g i := by
  unfold mix
  by_cases e : i = k
  · subst e; simp
  · by_cases e' : i < k
    · rw [if_pos (by omega), if_neg e, if_pos e']
    · rw [if_neg (by omega), if_neg e, if_neg e']

theorem GMid.step {w0 w : World} {B G ng k : Nat} {J : Nat → Int} {V : Nat → Nat} (h : GMid w0 w B G ng k J V) :
    GMid w0 (((w.setCell ⟨G, k * 2, none⟩ (.int .i64 (J k))).setCell ⟨G, k * 2 + 1, none⟩ (.float .f64 (V k))).drew) B G ng (k + 1) J V := by
  have hlo := h.lo
  refine ⟨by simpa using h.size, hlo, ((h.below.setCell (by exact hlo) _).setCell (by exact hlo) _).drew, ?_⟩
  refine World.rowIs.drew (((h.row.set (k * 2) _).set (k * 2 + 1) _).congr fun i hi => ?_)
  show (if i = k * 2 + 1 then Value.float .f64 (V k) else if i = k * 2 then Value.int .i64 (J k) else gcell _ _ i) = _
  unfold gcell
  by_cases e1 : i = k * 2 + 1
  · subst e1
    rw [if_pos rfl, if_neg (by omega), mix_at, if_pos (by omega)]
  · rw [if_neg e1]
    by_cases e2 : i = k * 2
    · subst e2
      rw [if_pos rfl, if_pos (by omega), mix_at, if_pos (by omega)]
    · rw [if_neg e2]
      by_cases e3 : i % 2 = 0
      · rw [if_pos e3, if_pos e3, mix_at, if_neg (by omega)]
      · rw [if_neg e3, if_neg e3, mix_at, if_neg (by omega)]

theorem GMid.fin {w0 w : World} {B G ng : Nat} {J : Nat → Int} {V : Nat → Nat} (h : GMid w0 w B G ng ng J V) : w.rowIs G 56 (2 * ng) (gcell J V) :=
  h.row.congr fun i hi => by
    unfold gcell mix
    have : i / 2 < ng := by omega
    simp [this]

theorem GMid.cells {w0 w : World} {B G ng k : Nat} {J : Nat → Int} {V : Nat → Nat} (h : GMid w0 w B G ng k J V) (hk : k < ng) :
    (∃ v, w.cell? ⟨G, k * 2, none⟩ = some v) ∧ (∃ v, w.cell? ⟨G, k * 2 + 1, none⟩ = some v) :=
  ⟨⟨_, h.row.cell (by omega)⟩, ⟨_, h.row.cell (by omega)⟩⟩

theorem build61 (n lv ng nl AL CH UP DN G LO Z R U MZ MR : Nat) (w : World) :
    (Instr.build 61 #[(1, sl AL n), (2, sl CH n), (3, sl UP n), (4, sl DN n), (5, sl Z lv), (6, sl R lv), (8, sl G ng), (9, sl LO nl), (10, sl U n), (12, sl MZ lv), (13, sl MR lv)]).run Try.prog w = .ok (.agg (newAgg n lv ng nl AL CH UP DN G LO Z R U MZ MR)) w := by kernel_rfl

theorem newAgg_row (w : World) (n lv ng nl AL CH UP DN G LO Z R U MZ MR : Nat) :
    (w.alloc (.cells (newAgg n lv ng nl AL CH UP DN G LO Z R U MZ MR) 61)).rowIs w.heap.size 61 14 (fun q => (newAgg n lv ng nl AL CH UP DN G LO Z R U MZ MR).getD q undef) := by
  refine World.rowIs_alloc w _ 61 _ fun i hi => ?_
  rw [Array.getD_eq_getD_getElem?, Array.getElem?_eq_getElem hi]
  rfl

theorem getD_repl (n i : Nat) : (Array.replicate n false).getD i false = false := by
  rw [Array.getD_eq_getD_getElem?, Array.getElem?_replicate]
  split <;> rfl

/-- the climb as it is laid -/
def st0 (al : Nat → Nat) (ch up dn : Nat → Nat → Nat) : St := ⟨al, ch, up, dn, fun _ => 0, fun _ => 0, 0, fun _ => false, none, 0, 0, fun _ => 0, fun _ => 0⟩

/-- what the call is handed -/
structure NewIn (w : World) (B n lv AL CH UP DN : Nat) (al : Nat → Nat) (ch up dn : Nat → Nat → Nat) : Prop where
  bw : B ≤ w.heap.size
  bAL : B ≤ AL
  bCH : B ≤ CH
  hAL : w.rowIs AL 32 n (fun i => .float .f64 (al i))
  hCH : FTab w CH n lv ch
  hUP : FTab w UP n lv up
  hDN : FTab w DN n lv dn
  alo : ∀ j, j < n → AL ≠ CH + 1 + j ∧ AL ≠ UP + 1 + j ∧ AL ≠ DN + 1 + j
  cu : CH + n < UP
  cd : CH + n < DN

theorem new_fin {w wr w1 : World} {B n lv AL CH UP DN ng nl S Z R U MZ MR : Nat} {al : Nat → Nat} {ch up dn : Nat → Nat → Nat} {GJ LJ : Nat → Int} {GV LV : Nat → Nat}
    (hin : NewIn w B n lv AL CH UP DN al ch up dn) (hg : wr.rowIs w.heap.size 56 (2 * ng) (gcell GJ GV)) (hl : wr.rowIs (w.heap.size + 1) 56 (2 * nl) (gcell LJ LV)) (hb : Below w.heap.size w wr) (hs : wr.heap.size = w.heap.size + 1 + 1)
    (h5 : Five wr w1 n lv Z R U MZ MR) (hS : w1.rowIs S 61 14 (fun q => (newAgg n lv ng nl AL CH UP DN w.heap.size (w.heap.size + 1) Z R U MZ MR).getD q undef)) (hb1 : Below wr.heap.size wr w1) (bS : wr.heap.size ≤ S) :
    Climb ⟨B, S, AL, CH, UP, DN, Z, R, w.heap.size, w.heap.size + 1, U, MZ, MR, n, lv, ng, nl, GJ, GV, LJ, LV⟩ w1 (st0 al ch up dn) := by
  have hw1 : Below w.heap.size w w1 := hb.trans (hb1.mono (by omega))
  have b1 := h5.bz
  have b2 := h5.br
  have b3 := h5.bu
  have b4 := h5.bmz
  have b5 := h5.bmr
  have b6 := hin.bw
  have r1 : ∀ j, j < n → CH + 1 + j < w.heap.size := fun j hj => (hin.hCH.row j hj).lt
  have r2 : ∀ j, j < n → UP + 1 + j < w.heap.size := fun j hj => (hin.hUP.row j hj).lt
  have r3 : ∀ j, j < n → DN + 1 + j < w.heap.size := fun j hj => (hin.hDN.row j hj).lt
  have r4 : AL < w.heap.size := hin.hAL.lt
  refine ⟨⟨h5.zz, h5.rr, by show AL ≠ R; omega, by show AL ≠ MR; omega, hin.alo, fun j hj => ?_, fun j hj => ?_, hin.cu, hin.cd, by show B ≤ S; omega, hin.bAL, hin.bCH, by show B ≤ Z; omega, by show B ≤ R; omega, by show B ≤ U; omega, by show B ≤ MZ; omega, by show B ≤ MR; omega⟩, ?_, hin.hAL.of_block (hw1.block _ r4), hin.hCH.of_block hw1.block, hin.hUP.of_block hw1.block, hin.hDN.of_block hw1.block, h5.z, h5.r, hg.of_block (hb1.block _ hg.lt), hl.of_block (hb1.block _ hl.lt), h5.u, h5.mz, h5.mr⟩
  · have := r1 j hj; have := r2 j hj; have := r3 j hj
    exact ⟨by show R ≠ CH + 1 + j; omega, by show R ≠ UP + 1 + j; omega, by show R ≠ DN + 1 + j; omega⟩
  · have := r1 j hj; have := r2 j hj; have := r3 j hj
    exact ⟨by show MR ≠ CH + 1 + j; omega, by show MR ≠ UP + 1 + j; omega, by show MR ≠ DN + 1 + j; omega⟩
  · refine hS.congr fun i hi => ?_
    rcases (by omega : i = 0 ∨ i = 1 ∨ i = 2 ∨ i = 3 ∨ i = 4 ∨ i = 5 ∨ i = 6 ∨ i = 7 ∨ i = 8 ∨ i = 9 ∨ i = 10 ∨ i = 11 ∨ i = 12 ∨ i = 13) with rfl | rfl | rfl | rfl | rfl | rfl | rfl | rfl | rfl | rfl | rfl | rfl | rfl | rfl <;> rfl

theorem new_own {wr w1 : World} {wz B n lv AL CH UP DN G LO ng nl S Z R U MZ MR : Nat} {GJ LJ : Nat → Int} {GV LV : Nat → Nat} (h5 : Five wr w1 n lv Z R U MZ MR) (bS : wr.heap.size ≤ S) (hs : wz ≤ wr.heap.size) :
    ∀ k, own ⟨B, S, AL, CH, UP, DN, Z, R, G, LO, U, MZ, MR, n, lv, ng, nl, GJ, GV, LJ, LV⟩ k → k = AL ∨ (CH < k ∧ k ≤ CH + n) ∨ wz ≤ k := by
  intro k hk
  have b1 := h5.bz
  have b2 := h5.br
  have b3 := h5.bu
  have b4 := h5.bmz
  have b5 := h5.bmr
  have hk' : k = S ∨ k = AL ∨ (CH < k ∧ k ≤ CH + n) ∨ k = Z ∨ k = R ∨ k = U ∨ k = MZ ∨ k = MR := hk
  omega

theorem wpOp_plain {P : Program} {ops : Array Oper} {Q : Exit → Act → World → Prop} {K : Act → World → Prop} {i : Nat} {o : Oper} {a : Act} {w : World} (ho : ops[i]? = some o) (hg : o.guard = none) (h : o.wp P a w K Q) : wpOp P ops Q i K a w := by
  unfold wpOp
  rw [ho]
  have hw : Region.wanted o (yielded ops a.tmps) = true := by simp [Region.wanted, hg]
  simp only [hw, if_true]
  exact .inl h
theorem wp_of_run {P : Program} {Q : Exit → Act → World → Prop} {K : Act → World → Prop} {o : Oper} {a : Act} {w w' : World} {v : Value} (h : (execOp a.eval o).run P w = .ok (.value v) w') (hK : K (a.put o.dst v) w') : o.wp P a w K Q := by
  unfold Oper.wp
  rw [h]
  exact hK

set_option maxHeartbeats 1000000 in
set_option maxRecDepth 100000 in
theorem newClimb_any (w : World) (B n lv AL CH UP DN : Nat) (al : Nat → Nat) (ch up dn : Nat → Nat → Nat) (hin : NewIn w B n lv AL CH UP DN al ch up dn) (ga gb la lb : Option Addr) (ng nl gc1 gc2 lc1 lc2 : Nat) (GJ LJ : Nat → Int) (GV LV : Nat → Nat)
    (hgj : Rd w ga ng (fun i => .int .i64 (GJ i))) (hgv : Rd w gb ng (fun i => .float .f64 (GV i))) (hlj : Rd w la nl (fun i => .int .i64 (LJ i))) (hlv : Rd w lb nl (fun i => .float .f64 (LV i)))
    (hn : n ≤ 1048576) (hl : lv ≤ 1048576) (hng : ng ≤ 1048576) (hnl : nl ≤ 1048576) :
    Calls Try.prog 15 #[sl AL n, sl CH n, sl UP n, sl DN n, .int .i64 lv, .slice ga ng gc1, .slice gb ng gc2, .slice la nl lc1, .slice lb nl lc2] w fun e w' =>
      ∃ S Z R' G LO U MZ MR, e = .returned (.pointer (some ⟨S, 0, none⟩)) ∧ Climb ⟨B, S, AL, CH, UP, DN, Z, R', G, LO, U, MZ, MR, n, lv, ng, nl, GJ, GV, LJ, LV⟩ w' (st0 al ch up dn) ∧ Below w.heap.size w w' ∧
        ∀ k, own ⟨B, S, AL, CH, UP, DN, Z, R', G, LO, U, MZ, MR, n, lv, ng, nl, GJ, GV, LJ, LV⟩ k → k = AL ∨ (CH < k ∧ k ≤ CH + n) ∨ w.heap.size ≤ k := by
  refine calls_of_k fun R hR => ?_
  have HIN := hide hin
  clear hin
  have hmk := run_make_gain ng hng
  unfold sl
  go_enter Try.func15, Try.ntmps15
  go_wp2
  clear hmk
  go_loopg [20] ng (fun g i wr => ∃ k : Nat, k + g = ng ∧ i = .int .i64 k ∧ GMid w wr w.heap.size w.heap.size ng k GJ GV)
  case atStart => exact ⟨0, by omega, rfl, GMid.start (Below.refl _ _) (Nat.le_refl _) _ _ _⟩
  case round =>
    obtain ⟨k, hk, rfl, hg⟩ := hrel
    by_cases hlt : k < ng
    · obtain ⟨b1, o1, rfl, c1⟩ := hgj k hlt
      obtain ⟨b2, o2, rfl, c2⟩ := hgv k hlt
      have c1' := (hg.below.cell (cell_lt c1)).trans c1
      have c2' := (hg.below.cell (cell_lt c2)).trans c2
      obtain ⟨⟨v1, d1⟩, ⟨v2, d2⟩⟩ := hg.cells hlt
      have f1 := hg.row.frozen (k * 2)
      have f2 := hg.row.frozen (k * 2 + 1)
      have HS := hide hg.step
      clear hg c1 c2
      go_wp2
      go_region
      go_wp2
      go_roundg (ng - (k + 1))
      case measure => omega
      case rel => exact ⟨k + 1, by omega, by go_num, HS.out⟩
    · have e : k = ng := by omega
      subst e
      have hmk := run_make_gain nl hnl
      have hgf := hg.fin
      have hgs := hg.size
      have HG := hide (And.intro hgf hg.below)
      clear hg hgf
      go_wp2
      clear hmk
      have HG2 := hide (GMid.start HG.out.2 (by omega) nl LJ LV)
      rw [hgs] at HG2
      clear hgs
      go_loopg [22] nl (fun g i wr => ∃ q : Nat, q + g = nl ∧ i = .int .i64 q ∧ wr.rowIs w.heap.size 56 (2 * k) (gcell GJ GV) ∧ GMid w wr w.heap.size (w.heap.size + 1) nl q LJ LV)
      case atStart => exact ⟨0, by omega, rfl, HG.out.1.alloc _, HG2.out⟩
      case round =>
        obtain ⟨q, hq, rfl, hrow, hg⟩ := hrel
        clear HG HG2
        by_cases hlt : q < nl
        · obtain ⟨b1, o1, rfl, c1⟩ := hlj q hlt
          obtain ⟨b2, o2, rfl, c2⟩ := hlv q hlt
          have c1' := (hg.below.cell (cell_lt c1)).trans c1
          have c2' := (hg.below.cell (cell_lt c2)).trans c2
          obtain ⟨⟨v1, d1⟩, ⟨v2, d2⟩⟩ := hg.cells hlt
          have f1 := hg.row.frozen (q * 2)
          have f2 := hg.row.frozen (q * 2 + 1)
          have HS := hide hg.step
          have HR := hide (((hrow.setOther (a := ⟨(w.heap.size + 1), q * 2, none⟩) (by show w.heap.size ≠ (w.heap.size + 1); omega) (.int .i64 (LJ q))).setOther (a := ⟨(w.heap.size + 1), q * 2 + 1, none⟩) (by show w.heap.size ≠ (w.heap.size + 1); omega) (.float .f64 (LV q))).drew)
          clear hg c1 c2 hrow
          go_wp2
          go_region
          go_wp2
          go_roundg (nl - (q + 1))
          case measure => omega
          case rel => exact ⟨q + 1, by omega, by go_num, HR.out, HS.out⟩
        · have e : q = nl := by omega
          subst e
          have m1 := run_make_row' (P := Try.prog) 36 3 (.int .i64 0) 8 Try.underlying36 Try.info3 rfl .i64 .i64 lv (by omega) (by omega)
          have m2 := run_make_row' (P := Try.prog) 30 32 (.float .f64 0) 8 Try.underlying30 Try.info32 rfl .i64 .i64 lv (by omega) (by omega)
          have m3 := run_make_row' (P := Try.prog) 57 4 (.bool false) 1 Try.underlying57 Try.info4 rfl .i64 .i64 n (by omega) (by omega)
          have HR := hide hrow
          have HF := hide (And.intro hg.fin hg.below)
          have HS := hide hg.size
          clear hrow hg hgj hgv hlj hlv
          go_wp2
          refine wp_region_inv Try.mixed (NI ⟨n, lv, k, q, AL, CH, UP, DN, w.heap.size, w.heap.size + 1⟩ wr) ?h0 ?step ?fin
          case h0 =>
            refine ⟨rfl, rfl, rfl, (Below.refl _ _).drew, rfl, rfl, rfl, rfl, rfl, rfl, rfl, fun i hi hL => ?_, fun h => ?_, fun h => ?_⟩
            · rw [getD_repl] at hL; cases hL
            · rw [getD_repl] at h; cases h
            · rw [getD_repl] at h; cases h
          case step =>
            intro L a w1 h i hi
            obtain ⟨h1, h2, o, ho, hd⟩ := ready_mem hi
            have hi20 : i < 20 := by simpa using h1
            clear h1 hi
            rcases (by omega : i = 0 ∨ i = 1 ∨ i = 2 ∨ i = 3 ∨ i = 4 ∨ i = 5 ∨ i = 6 ∨ i = 7 ∨ i = 8 ∨ i = 9 ∨ i = 10 ∨ i = 11 ∨ i = 12 ∨ i = 13 ∨ i = 14 ∨ i = 15 ∨ i = 16 ∨ i = 17 ∨ i = 18 ∨ i = 19) with rfl | rfl | rfl | rfl | rfl | rfl | rfl | rfl | rfl | rfl | rfl | rfl | rfl | rfl | rfl | rfl | rfl | rfl | rfl | rfl
            · refine wpOp_plain ho ?_ ?_
              · simp at ho; subst ho; rfl
              · simp at ho; subst ho
                have q0 := h.p0
                refine wp_of_run (v := sl AL n) (w' := w1) ?_ ?_
                · simp [execOp, Act.eval, q0]
                · exact h.put (i := 0) (by omega) _ rfl (fun _ _ h => h) h.bel (by omega) (by omega) (by omega) (by omega)
            · refine wpOp_plain ho ?_ ?_
              · simp at ho; subst ho; rfl
              · simp at ho; subst ho
                have q0 := h.p1
                refine wp_of_run (v := sl CH n) (w' := w1) ?_ ?_
                · simp [execOp, Act.eval, q0]
                · exact h.put (i := 1) (by omega) _ rfl (fun _ _ h => h) h.bel (by omega) (by omega) (by omega) (by omega)
            · refine wpOp_plain ho ?_ ?_
              · simp at ho; subst ho; rfl
              · simp at ho; subst ho
                have q0 := h.p2
                refine wp_of_run (v := sl UP n) (w' := w1) ?_ ?_
                · simp [execOp, Act.eval, q0]
                · exact h.put (i := 2) (by omega) _ rfl (fun _ _ h => h) h.bel (by omega) (by omega) (by omega) (by omega)
            · refine wpOp_plain ho ?_ ?_
              · simp at ho; subst ho; rfl
              · simp at ho; subst ho
                have q0 := h.p3
                refine wp_of_run (v := sl DN n) (w' := w1) ?_ ?_
                · simp [execOp, Act.eval, q0]
                · exact h.put (i := 3) (by omega) _ rfl (fun _ _ h => h) h.bel (by omega) (by omega) (by omega) (by omega)
            · refine wpOp_plain ho ?_ ?_
              · simp at ho; subst ho; rfl
              · simp at ho; subst ho
                have q0 := h.p4
                refine wp_of_run (v := .int .i64 lv) (w' := w1) ?_ ?_
                · simp [execOp, Act.eval, q0]
                · exact h.put (i := 4) (by omega) _ rfl (fun _ _ h => h) h.bel (by omega) (by omega) (by omega) (by omega)
            · simp at ho; subst ho
              simp [Region.binds] at hd
              have q0 : a.tmps.getD 69 undef = .int .i64 (lv : Nat) := h.got (i := 4) (by omega) hd
              refine wpOp_plain (by simp; rfl) rfl ?_
              refine wp_of_run (v := sl w1.heap.size lv) (w' := w1.alloc (.cells (madeCells #[.int .i64 0] lv) 3)) ?_ ?_
              · simp [execOp, Act.eval, q0, m1, sl]
              · exact h.put (i := 5) (by omega) _ (made_new h.bel _ _ _) (fun _ _ h => h.alloc _) (h.bel.alloc h.bel.size _) (fun _ hL => (h.v 14 (by omega) hL).ne_new _) (by omega) (by omega) (by omega)
            · refine wpOp_plain ho ?_ ?_
              · simp at ho; subst ho; rfl
              · simp at ho; subst ho
                have q0 := h.p4
                refine wp_of_run (v := .int .i64 lv) (w' := w1) ?_ ?_
                · simp [execOp, Act.eval, q0]
                · exact h.put (i := 6) (by omega) _ rfl (fun _ _ h => h) h.bel (by omega) (by omega) (by omega) (by omega)
            · simp at ho; subst ho
              simp [Region.binds] at hd
              have q0 : a.tmps.getD 71 undef = .int .i64 (lv : Nat) := h.got (i := 6) (by omega) hd
              refine wpOp_plain (by simp; rfl) rfl ?_
              refine wp_of_run (v := sl w1.heap.size lv) (w' := w1.alloc (.cells (madeCells #[.float .f64 0] lv) 32)) ?_ ?_
              · simp [execOp, Act.eval, q0, m2, sl]
              · exact h.put (i := 7) (by omega) _ (made_new h.bel _ _ _) (fun _ _ h => h.alloc _) (h.bel.alloc h.bel.size _) (by omega) (by omega) (fun _ hL => (h.v 16 (by omega) hL).ne_new _) (by omega)
            · refine wpOp_plain ho ?_ ?_
              · simp at ho; subst ho; rfl
              · simp at ho; subst ho
                have q0 := h.p19
                refine wp_of_run (v := sl w.heap.size k) (w' := w1) ?_ ?_
                · simp [execOp, Act.eval, q0]
                · exact h.put (i := 8) (by omega) _ rfl (fun _ _ h => h) h.bel (by omega) (by omega) (by omega) (by omega)
            · refine wpOp_plain ho ?_ ?_
              · simp at ho; subst ho; rfl
              · simp at ho; subst ho
                have q0 := h.p21
                refine wp_of_run (v := sl (w.heap.size + 1) q) (w' := w1) ?_ ?_
                · simp [execOp, Act.eval, q0]
                · exact h.put (i := 9) (by omega) _ rfl (fun _ _ h => h) h.bel (by omega) (by omega) (by omega) (by omega)
            · refine wpOp_plain ho ?_ ?_
              · simp at ho; subst ho; rfl
              · simp at ho; subst ho
                have q0 := h.p0
                refine wp_of_run (v := sl AL n) (w' := w1) ?_ ?_
                · simp [execOp, Act.eval, q0]
                · exact h.put (i := 10) (by omega) _ rfl (fun _ _ h => h) h.bel (by omega) (by omega) (by omega) (by omega)
            · simp at ho; subst ho
              simp [Region.binds] at hd
              have q0 : a.tmps.getD 75 undef = sl AL n := h.got (i := 10) (by omega) hd
              refine wpOp_plain (by simp; rfl) rfl ?_
              refine wp_of_run (v := .int .i64 n) (w' := w1) ?_ ?_
              · unfold sl at q0
                simp [execOp, Act.eval, q0, resolve, invoke, builtin, run_len_slice, Result.andThen, goInt, Program.elem, Try.underlying30]
              · exact h.put (i := 11) (by omega) _ rfl (fun _ _ h => h) h.bel (by omega) (by omega) (by omega) (by omega)
            · simp at ho; subst ho
              simp [Region.binds] at hd
              have q0 : a.tmps.getD 76 undef = .int .i64 (n : Nat) := h.got (i := 11) (by omega) hd
              refine wpOp_plain (by simp; rfl) rfl ?_
              refine wp_of_run (v := sl w1.heap.size n) (w' := w1.alloc (.cells (madeCells #[.bool false] n) 4)) ?_ ?_
              · simp [execOp, Act.eval, q0, m3, sl]
              · exact h.put (i := 12) (by omega) _ (made_new h.bel _ _ _) (fun _ _ h => h.alloc _) (h.bel.alloc h.bel.size _) (by omega) (by omega) (by omega) (by omega)
            · refine wpOp_plain ho ?_ ?_
              · simp at ho; subst ho; rfl
              · simp at ho; subst ho
                have q0 := h.p4
                refine wp_of_run (v := .int .i64 lv) (w' := w1) ?_ ?_
                · simp [execOp, Act.eval, q0]
                · exact h.put (i := 13) (by omega) _ rfl (fun _ _ h => h) h.bel (by omega) (by omega) (by omega) (by omega)
            · simp at ho; subst ho
              simp [Region.binds] at hd
              have q0 : a.tmps.getD 78 undef = .int .i64 (lv : Nat) := h.got (i := 13) (by omega) hd
              refine wpOp_plain (by simp; rfl) rfl ?_
              refine wp_of_run (v := sl w1.heap.size lv) (w' := w1.alloc (.cells (madeCells #[.int .i64 0] lv) 3)) ?_ ?_
              · simp [execOp, Act.eval, q0, m1, sl]
              · exact h.put (i := 14) (by omega) _ (made_new h.bel _ _ _) (fun _ _ h => h.alloc _) (h.bel.alloc h.bel.size _) (by omega) (fun _ hL => (h.v 5 (by omega) hL).ne_new _) (by omega) (by omega)
            · refine wpOp_plain ho ?_ ?_
              · simp at ho; subst ho; rfl
              · simp at ho; subst ho
                have q0 := h.p4
                refine wp_of_run (v := .int .i64 lv) (w' := w1) ?_ ?_
                · simp [execOp, Act.eval, q0]
                · exact h.put (i := 15) (by omega) _ rfl (fun _ _ h => h) h.bel (by omega) (by omega) (by omega) (by omega)
            · simp at ho; subst ho
              simp [Region.binds] at hd
              have q0 : a.tmps.getD 80 undef = .int .i64 (lv : Nat) := h.got (i := 15) (by omega) hd
              refine wpOp_plain (by simp; rfl) rfl ?_
              refine wp_of_run (v := sl w1.heap.size lv) (w' := w1.alloc (.cells (madeCells #[.float .f64 0] lv) 32)) ?_ ?_
              · simp [execOp, Act.eval, q0, m2, sl]
              · exact h.put (i := 16) (by omega) _ (made_new h.bel _ _ _) (fun _ _ h => h.alloc _) (h.bel.alloc h.bel.size _) (by omega) (by omega) (by omega) (fun _ hL => (h.v 7 (by omega) hL).ne_new _)
            · simp at ho; subst ho
              simp [Region.binds] at hd
              obtain ⟨l0, l1, l2, l3, l5, l7, l8, l9, l12, l14, l16⟩ := hd
              have q0 : a.tmps.getD 65 undef = sl AL n := h.got (i := 0) (by omega) l0
              have q1 : a.tmps.getD 66 undef = sl CH n := h.got (i := 1) (by omega) l1
              have q2 : a.tmps.getD 67 undef = sl UP n := h.got (i := 2) (by omega) l2
              have q3 : a.tmps.getD 68 undef = sl DN n := h.got (i := 3) (by omega) l3
              have q8 : a.tmps.getD 73 undef = sl w.heap.size k := h.got (i := 8) (by omega) l8
              have q9 : a.tmps.getD 74 undef = sl (w.heap.size + 1) q := h.got (i := 9) (by omega) l9
              obtain ⟨Z, q5, bZ, rZ⟩ : Made wr w1 3 lv (.int .i64 0) (a.tmps.getD 70 undef) := h.got (i := 5) (by omega) l5
              obtain ⟨R', q7, bR, rR⟩ : Made wr w1 32 lv (.float .f64 0) (a.tmps.getD 72 undef) := h.got (i := 7) (by omega) l7
              obtain ⟨U, q12, bU, rU⟩ : Made wr w1 4 n (.bool false) (a.tmps.getD 77 undef) := h.got (i := 12) (by omega) l12
              obtain ⟨MZ, q14, bMZ, rMZ⟩ : Made wr w1 3 lv (.int .i64 0) (a.tmps.getD 79 undef) := h.got (i := 14) (by omega) l14
              obtain ⟨MR, q16, bMR, rMR⟩ : Made wr w1 32 lv (.float .f64 0) (a.tmps.getD 81 undef) := h.got (i := 16) (by omega) l16
              have n1 := h.d1 (by rw [Array.getD_eq_getD_getElem?]; exact l5) (by rw [Array.getD_eq_getD_getElem?]; exact l14)
              have n2 := h.d2 (by rw [Array.getD_eq_getD_getElem?]; exact l7) (by rw [Array.getD_eq_getD_getElem?]; exact l16)
              rw [q5, q14] at n1
              rw [q7, q16] at n2
              refine wpOp_plain (by simp; rfl) rfl ?_
              refine wp_of_run (v := .agg (newAgg n lv k q AL CH UP DN w.heap.size (w.heap.size + 1) Z R' U MZ MR)) (w' := w1) ?_ ?_
              · have hb := build61 n lv k q AL CH UP DN w.heap.size (w.heap.size + 1) Z R' U MZ MR w1
                have e0 : a.eval (.tmp 65) = _ := q0
                have e1 : a.eval (.tmp 66) = _ := q1
                have e2 : a.eval (.tmp 67) = _ := q2
                have e3 : a.eval (.tmp 68) = _ := q3
                have e5 : a.eval (.tmp 70) = _ := q5
                have e7 : a.eval (.tmp 72) = _ := q7
                have e8 : a.eval (.tmp 73) = _ := q8
                have e9 : a.eval (.tmp 74) = _ := q9
                have e12 : a.eval (.tmp 77) = _ := q12
                have e14 : a.eval (.tmp 79) = _ := q14
                have e16 : a.eval (.tmp 81) = _ := q16
                simp [execOp, e0, e1, e2, e3, e5, e7, e8, e9, e12, e14, e16, hb]
              · exact h.put (i := 17) (by omega) _ ⟨Z, R', U, MZ, MR, ⟨rZ, rR, rU, rMZ, rMR, bZ, bR, bU, bMZ, bMR, fun e => n1 (by rw [e]), fun e => n2 (by rw [e])⟩, rfl⟩ (fun _ _ h => h) h.bel (by omega) (by omega) (by omega) (by omega)
            · simp at ho; subst ho
              simp [Region.binds] at hd
              obtain ⟨Z, R', U, MZ, MR, h5, q0⟩ : Vl ⟨n, lv, k, q, AL, CH, UP, DN, w.heap.size, w.heap.size + 1⟩ wr w1 17 (a.tmps.getD 82 undef) := h.got (i := 17) (by omega) hd
              refine wpOp_plain (by simp; rfl) rfl ?_
              refine wp_of_run (v := .pointer (some ⟨w1.heap.size, 0, none⟩)) (w' := w1.alloc (.cells (newAgg n lv k q AL CH UP DN w.heap.size (w.heap.size + 1) Z R' U MZ MR) 61)) ?_ ?_
              · simp [execOp, Act.eval, q0, go_sem]
              · exact h.put (i := 18) (by omega) _ ⟨w1.heap.size, Z, R', U, MZ, MR, h5.alloc _, rfl, h.bel.size, newAgg_row w1 _ _ _ _ _ _ _ _ _ _ _ _ _ _ _⟩ (fun _ _ h => h.alloc _) (h.bel.alloc h.bel.size _) (by omega) (by omega) (by omega) (by omega)
            · simp at ho; subst ho
              simp [Region.binds] at hd
              obtain ⟨S, Z, R', U, MZ, MR, h5, q0, bS, rS⟩ : Vl ⟨n, lv, k, q, AL, CH, UP, DN, w.heap.size, w.heap.size + 1⟩ wr w1 18 (a.tmps.getD 83 undef) := h.got (i := 18) (by omega) hd.1
              refine wpOp_plain (by simp; rfl) rfl ?_
              refine wp_of_run (v := .pointer (some ⟨S, 0, none⟩)) (w' := w1) ?_ ?_
              · simp [execOp, Act.eval, q0]
              · exact h.put (i := 19) (by omega) _ ⟨S, Z, R', U, MZ, MR, h5, rfl, bS, rS⟩ (fun _ _ h => h) h.bel (by omega) (by omega) (by omega) (by omega)
          case fin =>
            intro L a w1 h hr
            have hall := ready_all (by kernel_rfl) h.ls hr
            obtain ⟨S, Z, R', U, MZ, MR, h5, q0, bS, rS⟩ : Vl ⟨n, lv, k, q, AL, CH, UP, DN, w.heap.size, w.heap.size + 1⟩ wr w1 19 (a.tmps.getD 18 undef) := h.v 19 (by omega) (hall 19 (by decide))
            obtain ⟨tm, dfs⟩ := a
            have hdf := h.df
            have hbel := h.bel
            simp only at q0 hdf
            subst hdf
            have H5 := hide h5
            have HSr := hide rS
            have HB1 := hide hbel
            have HbS := hide bS
            clear h hall hr h5 rS hbel bS
            go_wp2
            refine hR.out _ _ ⟨S, Z, R', w.heap.size, w.heap.size + 1, U, MZ, MR, by rw [← q0, Array.getD_eq_getD_getElem?], ?_, ?_, ?_⟩
            · exact new_fin (HIN.out) HR.out HF.out.1 HF.out.2 HS.out H5.out HSr.out HB1.out HbS.out
            · exact HF.out.2.trans (HB1.out.mono (by have := HF.out.2.size; omega))
            · exact new_own H5.out HbS.out HF.out.2.size

end Go.Proofs.Qxb6000633a
