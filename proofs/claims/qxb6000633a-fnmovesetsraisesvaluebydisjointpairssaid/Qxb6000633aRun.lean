/-
  A round, run and read.
-/
import Derived.Test.Qxb6000633aCheck
import Derived.Test.Qxb6000633aWalkA
import Derived.Test.Qxb6000633aFrame
namespace Go.Proofs.Qxb6000633a
open Go.RowKit
attribute [local go_sem] run_store_float

/-- what a round does: each job's part (0 kept, 1 gave, 2 took), the count of pairs, the value -/
structure Done (C : Nat → Prop) (c : Cfg) (s s' : St) (sa ta : Nat → Nat) (r : Nat → Nat) (b : Bool) : Prop where
  up : s'.up = s.up
  dn : s'.dn = s.dn
  part : ∀ j, j < c.n → (r j = 0 ∧ s'.al j = s.al j ∧ ∀ k, k < c.lv → s'.ch j k = s.ch j k) ∨ (r j = 1 ∧ s'.al j = sa j ∧ (∀ k, k < c.lv → s'.ch j k = s.dn j k) ∧ ∃ i, i < c.nl ∧ c.LJ i = j) ∨ (r j = 2 ∧ s'.al j = ta j ∧ (∀ k, k < c.lv → s'.ch j k = s.up j k) ∧ ∃ i, i < c.ng ∧ c.GJ i = j)
  same : cnt (fun j => r j == 1) c.n = cnt (fun j => r j == 2) c.n
  no : b = false → cnt (fun j => r j == 1) c.n = 0 ∧ s'.val = s.val
  yes : b = true → C (cnt (fun j => r j == 1) c.n) ∧ s.val < s'.val
  fn : FN s'.val

/-- the contract of a round -/
def Mover (f : FuncId) (C : Nat → Prop) : Prop := ∀ (c : Cfg) (w : World) (s : St) (Q U D : Nat → Nat → Nat) (dd : Nat) (sa ta : Nat → Nat), Climb c w s → Ready c s Q U D dd sa ta → s.pa = none → s.pl = 0 → s.pc = 0 →
  Calls Try.prog f #[.pointer (some ⟨c.S, 0, none⟩), .float .f64 dd] w fun e w' => ∃ (b : Bool) (s' : St) (r : Nat → Nat), e = .returned (.bool b) ∧ Climb c w' s' ∧ Done C c s s' sa ta r b ∧ Touch (own c) w w'

theorem cnt_none {p : Nat → Bool} {n : Nat} (h : ∀ i, i < n → p i = false) : cnt p n = 0 := by
  induction n with
  | zero => rfl
  | succ n ih => rw [cnt_succ, ih fun i hi => h i (by omega), h n (by omega)]; rfl

theorem done_kept (C : Nat → Prop) (c : Cfg) (s : St) (sa ta : Nat → Nat) (h : FN s.val) : Done C c s s sa ta (fun _ => 0) false :=
  ⟨rfl, rfl, fun _ _ => .inl ⟨rfl, rfl, fun _ _ => rfl⟩, (cnt_none (fun _ _ => rfl)).trans (cnt_none (fun _ _ => rfl)).symm, fun _ => ⟨cnt_none (fun _ _ => rfl), rfl⟩, fun h => (by cases h), h⟩

theorem done_pair {c : Cfg} {s s' : St} {sa ta : Nat → Nat} {f t : Nat} (hn : Named c f t) (up : s'.up = s.up) (dn : s'.dn = s.dn) (al : s'.al = upd (upd s.al f (sa f)) t (ta t)) (ch : s'.ch = upd (upd s.ch f (s.dn f)) t (s.up t)) (hv : s.val < s'.val) (fn : FN s'.val) :
    Done (fun k => k = 1) c s s' sa ta (fun j => if j = t then 2 else if j = f then 1 else 0) true := by
  have h1 : cnt (fun j => (if j = t then 2 else if j = f then 1 else 0) == 1) c.n = 1 := by
    have h := cnt_two (fun _ => false) hn.hf hn.ht hn.ne true false
    rw [cnt_none (p := fun _ => false) (fun _ _ => rfl)] at h
    simp only [Bool.false_eq_true, if_false, if_true] at h
    refine (cnt_congr (q := fun j => if j = t then false else if j = f then true else false) fun i _ => ?_).trans (by omega)
    by_cases e1 : i = t
    · simp [e1]
    · by_cases e2 : i = f
      · subst e2; simp [e1]
      · simp [e1, e2]
  have h2 : cnt (fun j => (if j = t then 2 else if j = f then 1 else 0) == 2) c.n = 1 := by
    have h := cnt_two (fun _ => false) hn.hf hn.ht hn.ne false true
    rw [cnt_none (p := fun _ => false) (fun _ _ => rfl)] at h
    simp only [Bool.false_eq_true, if_false, if_true] at h
    refine (cnt_congr (q := fun j => if j = t then true else if j = f then false else false) fun i _ => ?_).trans (by omega)
    by_cases e1 : i = t
    · simp [e1]
    · by_cases e2 : i = f
      · subst e2; simp [e1]
      · simp [e1, e2]
  refine ⟨up, dn, ?_, h1.trans h2.symm, fun h => (by cases h), fun _ => ⟨h1, hv⟩, fn⟩
  intro j hj
  rw [al, ch]
  by_cases e1 : j = t
  · subst e1
    exact .inr (.inr ⟨by simp, by simp [upd], fun k _ => by simp [upd], hn.inG⟩)
  · by_cases e2 : j = f
    · subst e2
      exact .inr (.inl ⟨by simp [e1], by simp [upd, e1], fun k _ => by simp [upd, e1], hn.inL⟩)
    · exact .inl ⟨by simp [e1, e2], by simp [upd, e1, e2], fun k _ => by simp [upd, e1, e2]⟩

set_option maxHeartbeats 1000000 in
theorem zzMovePair_any : Mover 44 (fun k => k = 1) := by
  intro c w s Q U D dd sa ta h hr _ _ _
  refine calls_of_k fun R hR => ?_
  have HP := hide (movePair_any c w s Q U D dd sa ta h hr)
  have V0 : Hid (FN s.val) := by rw [hr.val]; exact vsum_fn _ _ hr.lv
  have HL := hide hr.lv
  have HV := hide hr.val
  clear h hr
  go_enter Try.func44, Try.ntmps44
  go_wp2_with fail
  refine HP.out.mono ?_
  rintro e w' ⟨b, rfl, h0, h1, ht⟩
  have H0 := hide h0
  have H1 := hide h1
  have HT := hide ht
  clear h0 h1 ht HP
  cases b
  · go_wp2_with fail
    exact hR.out _ _ ⟨false, s, _, rfl, H0.out (by first | rfl | trivial), done_kept _ _ _ _ _ V0.out, HT.out⟩
  · go_wp2_with fail
    obtain ⟨f, t, hn, hc, hlt⟩ := H1.out (by first | rfl | trivial)
    exact hR.out _ _ ⟨true, _, _, rfl, hc, done_pair hn rfl rfl rfl rfl (by rw [HV.out]; exact hlt) (vsum_fn _ _ HL.out), HT.out⟩

set_option maxHeartbeats 1000000 in
theorem value_any (c : Cfg) (w : World) (s : St) (h : Climb c w s) : Calls Try.prog 42 #[.pointer (some ⟨c.S, 0, none⟩)] w fun e w' => e = .returned (.float .f64 s.val) ∧ w' = w := by
  refine calls_of_k fun R hR => ?_
  have k := h.f7
  clear h
  go_enter Try.func42, Try.ntmps42
  go_wp2
  exact hR.out _ _ ⟨rfl, rfl⟩

set_option maxHeartbeats 1000000 in
theorem chances_any (c : Cfg) (w : World) (s : St) (h : Climb c w s) : Calls Try.prog 45 #[.pointer (some ⟨c.S, 0, none⟩)] w fun e w' => e = .returned (.slice (some ⟨c.CH, 0, none⟩) c.n c.n) ∧ w' = w := by
  refine calls_of_k fun R hR => ?_
  have k := h.f2
  clear h
  go_enter Try.func45, Try.ntmps45
  go_wp2
  exact hR.out _ _ ⟨rfl, rfl⟩

set_option maxHeartbeats 1000000 in
theorem allocs_any (c : Cfg) (w : World) (s : St) (h : Climb c w s) : Calls Try.prog 47 #[.pointer (some ⟨c.S, 0, none⟩)] w fun e w' => e = .returned (.slice (some ⟨c.AL, 0, none⟩) c.n c.n) ∧ w' = w := by
  refine calls_of_k fun R hR => ?_
  have k := h.f1
  clear h
  go_enter Try.func47, Try.ntmps47
  go_wp2
  exact hR.out _ _ ⟨rfl, rfl⟩

theorem FTab.of_part {w w' : World} {B n lv : Nat} {F : Nat → Nat → Nat} (h : FTab w B n lv F) (e : ∀ b, B ≤ b → b ≤ B + n → w'.heap[b]? = w.heap[b]?) : FTab w' B n lv F :=
  ⟨h.out.of_block (e _ (Nat.le_refl _) (by omega)), fun j hj => (h.row j hj).of_block (e _ (by omega) (by omega))⟩

theorem results_tmp5 {fn : Func} {i j k l q : Nat} (h : fn.results = #[.tmp i, .tmp j, .tmp k, .tmp l, .tmp q]) (t : Array Value) (P : Program) (w : World) :
    (results fn t).run P w = .ok (.tuple #[t.getD i undef, t.getD j undef, t.getD k undef, t.getD l undef, t.getD q undef]) w := by
  simp [results, h]

theorem nn_cf (n : Int) : NN (cf n) := by
  rw [cf_cls]
  unfold qb
  split
  · exact nn_zero
  · split <;> exact nn_pw _

/-- what a run is handed -/
structure RunIn (w : World) (xo ao bo co o1 o2 o3 o4 : Option Addr) (n lv m1 m3 : Nat) (A1 A2 A3 : Nat → Option Addr) (L1 L2 L3 C1 C2 C3 : Nat → Nat) (M U D : Nat → Nat → Int) (a : Nat → Int) (d : Int) (f1 f3 : Nat → Int) (v2 v4 : Nat → Nat) : Prop where
  hM : Codes w ao n A1 L1 C1 M
  hU : Codes w bo n A2 L2 C2 U
  hD : Codes w co n A3 L3 C3 D
  ha : Rd w xo n (fun j => .int .i16 (a j))
  h1 : Rd w o1 m1 (fun i => .int .i64 (f1 i))
  h2 : Rd w o2 m1 (fun i => .float .f64 (v2 i))
  h3 : Rd w o3 m3 (fun i => .int .i64 (f3 i))
  h4 : Rd w o4 m3 (fun i => .float .f64 (v4 i))

theorem RunIn.stays {w w' : World} {xo ao bo co o1 o2 o3 o4 : Option Addr} {n lv m1 m3 : Nat} {A1 A2 A3 : Nat → Option Addr} {L1 L2 L3 C1 C2 C3 : Nat → Nat} {M U D : Nat → Nat → Int} {a : Nat → Int} {d : Int} {f1 f3 : Nat → Int} {v2 v4 : Nat → Nat}
    (h : RunIn w xo ao bo co o1 o2 o3 o4 n lv m1 m3 A1 A2 A3 L1 L2 L3 C1 C2 C3 M U D a d f1 f3 v2 v4) (hb : Below w.heap.size w w') : RunIn w' xo ao bo co o1 o2 o3 o4 n lv m1 m3 A1 A2 A3 L1 L2 L3 C1 C2 C3 M U D a d f1 f3 v2 v4 :=
  ⟨h.hM.stays hb, h.hU.stays hb, h.hD.stays hb, h.ha.stays hb, h.h1.stays hb, h.h2.stays hb, h.h3.stays hb, h.h4.stays hb⟩

set_option maxHeartbeats 2000000 in
set_option maxRecDepth 100000 in
theorem climbRun_any (sets : Bool) (C : Nat → Prop) (hmov : Mover (if sets then 43 else 44) C) (w : World) (xo ao bo co o1 o2 o3 o4 : Option Addr) (n lv m1 m3 capx cap1 cap2 cap3 c1 c2 c3 c4 : Nat) (A1 A2 A3 : Nat → Option Addr) (L1 L2 L3 C1 C2 C3 : Nat → Nat) (M U D : Nat → Nat → Int) (a : Nat → Int) (d : Int) (f1 f3 : Nat → Int) (v2 v4 : Nat → Nat)
    (hin : RunIn w xo ao bo co o1 o2 o3 o4 n lv m1 m3 A1 A2 A3 L1 L2 L3 C1 C2 C3 M U D a d f1 f3 v2 v4) (hn : n ≤ 1048576) (hl : lv ≤ 1048576) (hlv : lv = (if n = 0 then 0 else L1 0)) (hfo : Formed n n n n lv L1 L2 L3 m1 m1 m3 m3) (hra : Raised n lv M U D d m1 m3 f1 f3)
    (hab : ∀ j, j < n → (a j).natAbs ≤ 32768) (hdb : d.natAbs ≤ 32768) :
    Calls Try.prog 30 #[.slice xo n capx, .slice ao n cap1, .slice bo n cap2, .slice co n cap3, .int .i16 d, .slice o1 m1 c1, .slice o2 m1 c2, .slice o3 m3 c3, .slice o4 m3 c4, .bool sets] w fun e w' =>
      ∃ (b : Bool) (q v0 v1 : Nat), e = .returned (.tuple #[.bool b, .int .i64 q, .bool true, .float .f64 v0, .float .f64 v1]) ∧ (b = false → q = 0 ∧ v1 = v0) ∧ (b = true → C q ∧ v0 < v1) ∧ FN v0 ∧ FN v1 ∧ Below w.heap.size w w' := by
  refine calls_of_k fun R hR => ?_
  have HIN := hide hin
  have HMV := hide hmov
  have HL := hide hlv
  have HFO := hide hfo
  have HRA := hide hra
  have HAB := hide hab
  have gb := hfo.gb
  have lb := hfo.lb
  have hmk := run_make_row' (P := Try.prog) 30 32 (.float .f64 0) 8 Try.underlying30 Try.info32 rfl .i64 .i64 n (by omega) (by omega)
  clear hin hmov hlv hfo hra hab
  go_enter Try.func30, Try.ntmps30
  go_wp2_with fail
  refine (levels_any _ ao n cap1 A1 L1 C1 M HIN.out.hM).mono ?_
  rintro e w0 ⟨rfl, rfl⟩
  rw [← HL.out]
  go_wp2_with fail
  clear hmk
  go_loopg [28] n (fun g i wr => ∃ k : Nat, k + g = n ∧ i = .int .i64 k ∧ Filling w0 wr w0.heap.size 32 n k (fun j => .float .f64 (fI (a j))) (.float .f64 0))
  case atStart => exact ⟨0, by omega, rfl, Filling.start _ _ _ _ _⟩
  case round =>
    obtain ⟨k, hk, rfl, hfil⟩ := hrel
    by_cases hlt : k < n
    · obtain ⟨b, off, rfl, g1⟩ := HIN.out.ha k hlt
      have g1' : wr.cell? ⟨b, off + k, none⟩ = some (.int .i16 (a k)) := (hfil.below.cell (cell_lt g1)).trans g1
      have g2 := hfil.cur.cell hlt
      rw [if_neg (Nat.lt_irrefl k)] at g2
      have g3 := hfil.cur.frozen k
      have HS := hide hfil.step
      have E := flt_fI (a k)
      clear hfil g1
      go_wp2_with fail
      go_roundg (n - (k + 1))
      case measure => omega
      case rel => exact ⟨k + 1, by omega, by go_num, HS.out⟩
    · have e : n = k := by omega
      subst e
      have hr0 := hfil.fin
      have z0 := hfil.size
      have b0 := hfil.below
      have I1 := HIN.out.stays b0
      have P0 := hide (And.intro hr0 (And.intro b0 z0))
      clear hfil hr0 b0 z0
      go_wp2_with fail
      refine (floats_any _ ao n cap1 lv A1 L1 C1 M I1.hM HFO.out.e1 hn hl).mono ?_
      rintro e w5 ⟨rfl, t5, b5, z5⟩
      have I2 := I1.stays b5
      have P5 := hide (And.intro t5 (And.intro b5 z5))
      clear t5 b5 z5 I1
      go_wp2_with fail
      refine (floats_any _ ao n cap1 lv A1 L1 C1 M I2.hM HFO.out.e1 hn hl).mono ?_
      rintro e w6 ⟨rfl, t6, b6, z6⟩
      have I3 := I2.stays b6
      have P6 := hide (And.intro t6 (And.intro b6 z6))
      clear t6 b6 z6 I2
      go_wp2_with fail
      refine (floats_any _ bo n cap2 lv A2 L2 C2 U I3.hU HFO.out.e2 hn hl).mono ?_
      rintro e w7 ⟨rfl, t7, b7, z7⟩
      have I4 := I3.stays b7
      have P7 := hide (And.intro t7 (And.intro b7 z7))
      clear t7 b7 z7 I3
      go_wp2_with fail
      refine (floats_any _ co n cap3 lv A3 L3 C3 D I4.hD HFO.out.e3 hn hl).mono ?_
      rintro e w8 ⟨rfl, t8, b8, z8⟩
      have I5 := I4.stays b8
      have P8 := hide (And.intro t8 (And.intro b8 z8))
      clear t8 b8 z8 I4
      have SZ : Hid (wr.heap.size = w0.heap.size + 1 ∧ w5.heap.size = wr.heap.size + 1 + n ∧ w6.heap.size = w5.heap.size + 1 + n ∧ w7.heap.size = w6.heap.size + 1 + n ∧ w8.heap.size = w7.heap.size + 1 + n) := ⟨P0.out.2.2, P5.out.2.2, P6.out.2.2, P7.out.2.2, P8.out.2.2⟩
      have B8 : Hid (Below w0.heap.size w0 w8) := by
        have := SZ.out
        exact below_up (below_up (below_up (below_up P0.out.2.1 P5.out.2.1 (by omega)) P6.out.2.1 (by omega)) P7.out.2.1 (by omega)) P8.out.2.1 (by omega)
      have ORI : Hid (FTab w8 w5.heap.size n lv (fun j k => cf (M j k))) := by
        have := SZ.out
        exact (P6.out.1.of_block fun b hb => P7.out.2.1.block b hb).of_block fun b hb => P8.out.2.1.block b hb
      have HN : Hid (NewIn w8 w0.heap.size n lv w0.heap.size wr.heap.size w6.heap.size w7.heap.size (fun j => fI (a j)) (fun j k => cf (M j k)) (fun j k => cf (U j k)) (fun j k => cf (D j k))) := by
        obtain ⟨z0, z5, z6, z7, z8⟩ := SZ.out
        obtain ⟨r0, b0, _⟩ := P0.out
        obtain ⟨t5, b5, _⟩ := P5.out
        obtain ⟨t6, b6, _⟩ := P6.out
        obtain ⟨t7, b7, _⟩ := P7.out
        obtain ⟨t8, b8, _⟩ := P8.out
        refine ⟨by omega, Nat.le_refl _, by omega, ?_, ?_, ?_, t8, fun j hj => ⟨by omega, by omega, by omega⟩, by omega, by omega⟩
        · exact (((r0.of_block (b5.block _ r0.lt)).of_block (b6.block _ (by omega))).of_block (b7.block _ (by omega))).of_block (b8.block _ (by omega))
        · exact t5.of_block fun b hb => ((b8.block b (by omega)).trans (b7.block b (by omega))).trans (b6.block b hb)
        · exact t7.of_block fun b hb => b8.block b hb
      clear P0 P5 P6 P7 P8
      go_wp2_with fail
      refine (newClimb_any w8 w0.heap.size n lv w0.heap.size wr.heap.size w6.heap.size w7.heap.size _ _ _ _ HN.out o1 o2 o3 o4 m1 m3 c1 c2 c3 c4 f1 f3 v2 v4 I5.h1 I5.h2 I5.h3 I5.h4 hn hl (by omega) (by omega)).mono ?_
      rintro e w9 ⟨cS, cZ, cR, cG, cLO, cU, cMZ, cMR, rfl, hc, b9, hown⟩
      have I6 := I5.stays b9
      have O9 := hide (ORI.out.of_block b9.block)
      have B9 : Hid (Below w0.heap.size w0 w9) := below_up B8.out b9 (by have := SZ.out; omega)
      have Z9 : Hid (w8.heap.size ≤ w9.heap.size) := b9.size
      have HOWN := hide hown
      have HC := hide hc
      clear HN B8 b9 I5 ORI hown
      have FEW : Hid (∀ k, k < lv → Hc (fun j k => cls (M j k)) k n + Hc (fun j k => cls (U j k)) k n + Hc (fun j k => cls (D j k)) k n ≤ 1000) := by
        intro k hk
        rw [hv_Hc, hv_Hc, hv_Hc]
        exact HRA.out.few k hk
      go_wp2_with fail
      refine (zzTally_any _ w9 _ (fun j k => cls (M j k)) hc (fun j k _ _ => cf_cls _) hn hl (fun k hk => by have := FEW.out k hk; show Hc _ k n ≤ 1000; omega)).mono ?_
      rintro e w10 ⟨rfl, hc10, b10⟩
      have B10 : Hid (Below w0.heap.size w0 w10) := B9.out.trans (b10.below hc.own_lo (by show w0.heap.size ≤ w9.heap.size; have := SZ.out; have := Z9.out; omega))
      have Z10 : Hid (w8.heap.size ≤ w10.heap.size) := Nat.le_trans Z9.out b10.size
      have O10 : Hid (FTab w10 w5.heap.size n lv (fun j k => cf (M j k))) := O9.out.of_part fun b h1 h2 => b10.block b (by have := SZ.out; have := Z9.out; omega) fun ho => by
        have := SZ.out
        rcases HOWN.out b ho with h | h | h <;> omega
      have T10 : Hid (∀ b, own ⟨w0.heap.size, cS, w0.heap.size, wr.heap.size, w6.heap.size, w7.heap.size, cZ, cR, cG, cLO, cU, cMZ, cMR, n, lv, m1, m3, f1, v2, f3, v4⟩ b → w0.heap.size ≤ b) := hc.own_lo
      have I10 := HIN.out.stays B10.out
      have HC10 := hide hc10
      clear HC hc hc10 b10 B9 O9 Z9 I6
      have V10 : Hid (Calls Try.prog 42 #[.pointer (some ⟨cS, 0, none⟩)] w10 fun e w' => e = .returned (.float .f64 (vF (fun j k => cls (M j k)) n lv)) ∧ w' = w10) := value_any _ w10 _ HC10.out
      go_wp2_with fail
      refine V10.out.mono ?_
      rintro e w11 ⟨rfl, rfl⟩
      clear V10
      have RDY : Hid (Ready ⟨w0.heap.size, cS, w0.heap.size, wr.heap.size, w6.heap.size, w7.heap.size, cZ, cR, cG, cLO, cU, cMZ, cMR, n, lv, m1, m3, f1, v2, f3, v4⟩ (stK (st0 (fun j => fI (a j)) (fun j k => cf (M j k)) (fun j k => cf (U j k)) (fun j k => cf (D j k))) (fun j k => cls (M j k)) n lv) (fun j k => cls (M j k)) (fun j k => cls (U j k)) (fun j k => cls (D j k)) (fI d) (fun j => fI (a j - d)) (fun j => fI (a j + d))) :=
        ⟨fun j k _ _ => cf_cls _, fun j k _ _ => cf_cls _, fun j k _ _ => cf_cls _, fun k hk => stK_zs _ n lv k hk, fun k hk => stK_rs _ n lv k hk, rfl, hn, hl, by show m1 ≤ _; omega, by show m3 ≤ _; omega, FEW.out, HRA.out.g, HRA.out.l, fun j hj => sub_fI (by have := HAB.out j hj; omega) (by omega), fun j hj => add_fI (by have := HAB.out j hj; omega) (by omega)⟩
      have HMR := hide (HMV.out _ w11 _ _ _ _ _ _ _ HC10.out RDY.out rfl rfl rfl)
      have E := flt_fI d
      clear HC10 RDY
      cases sets
      · go_wp2_with fail
        refine HMR.out.mono ?_
        rintro e w12 ⟨b, s', r, rfl, hc12, hdone, b12⟩
        have B12 : Hid (Below w0.heap.size w0 w12) := B10.out.trans (b12.below T10.out (by show w0.heap.size ≤ w11.heap.size; have := SZ.out; have := Z10.out; omega))
        have O12 : Hid (FTab w12 w5.heap.size n lv (fun j k => cf (M j k))) := O10.out.of_part fun b h1 h2 => b12.block b (by have := SZ.out; have := Z10.out; omega) fun ho => by
          have := SZ.out
          rcases HOWN.out b ho with h | h | h <;> omega
        have I12 := HIN.out.stays B12.out
        have ca := chances_any _ w12 _ hc12
        have aa := allocs_any _ w12 _ hc12
        have va := fun m => value_any _ (w12.drewN m) s' (hc12.of_block (w' := w12.drewN m) (fun _ _ => rfl))
        dsimp only at ca aa va
        have CA := hide ca
        have AA := hide aa
        have VA := hide va
        clear ca aa va
        have UT : FTab w12 w6.heap.size n lv (fun j k => cf (U j k)) := by have := hc12.UP; rw [hdone.up] at this; exact this
        have DT : FTab w12 w7.heap.size n lv (fun j k => cf (D j k)) := by have := hc12.DN; rw [hdone.dn] at this; exact this
        have TOLD : Told n lv a d s'.al (fun j k => cf (M j k)) s'.ch (fun j k => cf (U j k)) (fun j k => cf (D j k)) m1 m3 f1 f3 r := by
          refine ⟨HAB.out, hdb, HRA.out.d, fun j k hj hk => ?_, hdone.part, hdone.same⟩
          rcases hdone.part j hj with ⟨_, _, h⟩ | ⟨_, _, h, _⟩ | ⟨_, _, h, _⟩ <;> rw [h k hk] <;> exact nn_cf _
        have CM := hide (checkMoves_any w12 xo n lv capx a d w5.heap.size wr.heap.size w0.heap.size w6.heap.size w7.heap.size s'.al _ _ _ _ o1 o3 m1 m3 c1 c3 f1 f3 r I12.ha O12.out hc12.CH hc12.AL UT DT I12.h1 I12.h3 hn hl (by omega) (by omega) TOLD)
        have DN := hide hdone
        clear hdone hc12 b12 UT DT TOLD O10 B10 Z10 HMR I12
        go_wp2_with fail
        refine CA.out.mono ?_
        rintro e w13 ⟨rfl, rfl⟩
        clear CA
        go_wp2_with fail
        refine AA.out.mono ?_
        rintro e w14 ⟨rfl, rfl⟩
        clear AA
        go_wp2_with fail
        refine CM.out.mono ?_
        rintro e w15 ⟨rfl, m, rfl⟩
        clear CM
        go_wp2_with fail
        refine (VA.out m).mono ?_
        rintro e w16 ⟨rfl, rfl⟩
        go_wp2
        refine bodyPost_ret (results_tmp5 rfl _ _ _) rfl ?_
        exact hR.out _ _ ⟨b, cnt (fun j => r j == 1) n, vF (fun j k => cls (M j k)) n lv, s'.val, rfl, DN.out.no, DN.out.yes, vsum_fn _ _ hl, DN.out.fn, below_drewN B12.out m⟩
      · go_wp2_with fail
        refine HMR.out.mono ?_
        rintro e w12 ⟨b, s', r, rfl, hc12, hdone, b12⟩
        have B12 : Hid (Below w0.heap.size w0 w12) := B10.out.trans (b12.below T10.out (by show w0.heap.size ≤ w11.heap.size; have := SZ.out; have := Z10.out; omega))
        have O12 : Hid (FTab w12 w5.heap.size n lv (fun j k => cf (M j k))) := O10.out.of_part fun b h1 h2 => b12.block b (by have := SZ.out; have := Z10.out; omega) fun ho => by
          have := SZ.out
          rcases HOWN.out b ho with h | h | h <;> omega
        have I12 := HIN.out.stays B12.out
        have ca := chances_any _ w12 _ hc12
        have aa := allocs_any _ w12 _ hc12
        have va := fun m => value_any _ (w12.drewN m) s' (hc12.of_block (w' := w12.drewN m) (fun _ _ => rfl))
        dsimp only at ca aa va
        have CA := hide ca
        have AA := hide aa
        have VA := hide va
        clear ca aa va
        have UT : FTab w12 w6.heap.size n lv (fun j k => cf (U j k)) := by have := hc12.UP; rw [hdone.up] at this; exact this
        have DT : FTab w12 w7.heap.size n lv (fun j k => cf (D j k)) := by have := hc12.DN; rw [hdone.dn] at this; exact this
        have TOLD : Told n lv a d s'.al (fun j k => cf (M j k)) s'.ch (fun j k => cf (U j k)) (fun j k => cf (D j k)) m1 m3 f1 f3 r := by
          refine ⟨HAB.out, hdb, HRA.out.d, fun j k hj hk => ?_, hdone.part, hdone.same⟩
          rcases hdone.part j hj with ⟨_, _, h⟩ | ⟨_, _, h, _⟩ | ⟨_, _, h, _⟩ <;> rw [h k hk] <;> exact nn_cf _
        have CM := hide (checkMoves_any w12 xo n lv capx a d w5.heap.size wr.heap.size w0.heap.size w6.heap.size w7.heap.size s'.al _ _ _ _ o1 o3 m1 m3 c1 c3 f1 f3 r I12.ha O12.out hc12.CH hc12.AL UT DT I12.h1 I12.h3 hn hl (by omega) (by omega) TOLD)
        have DN := hide hdone
        clear hdone hc12 b12 UT DT TOLD O10 B10 Z10 HMR I12
        go_wp2_with fail
        refine CA.out.mono ?_
        rintro e w13 ⟨rfl, rfl⟩
        clear CA
        go_wp2_with fail
        refine AA.out.mono ?_
        rintro e w14 ⟨rfl, rfl⟩
        clear AA
        go_wp2_with fail
        refine CM.out.mono ?_
        rintro e w15 ⟨rfl, m, rfl⟩
        clear CM
        go_wp2_with fail
        refine (VA.out m).mono ?_
        rintro e w16 ⟨rfl, rfl⟩
        go_wp2
        refine bodyPost_ret (results_tmp5 rfl _ _ _) rfl ?_
        exact hR.out _ _ ⟨b, cnt (fun j => r j == 1) n, vF (fun j k => cls (M j k)) n lv, s'.val, rfl, DN.out.no, DN.out.yes, vsum_fn _ _ hl, DN.out.fn, below_drewN B12.out m⟩

end Go.Proofs.Qxb6000633a
