/-
  moveSets.
-/
import Derived.Test.Qxb6000633aClear
import Derived.Deep.CutBlock
import Derived.WalkMore
import Derived.ScopeJumps
import Derived.BigQuiet
import Derived.OwnWalk
import Derived.WalkSmall
namespace Go.Proofs.Qxb6000633a
open Go.RowKit
attribute [local go_sem] run_store_float

theorem Try.info72 : (Try.prog.info? 72).map (fun i => (i.zero, i.size, i.bytes)) = some (some (.agg #[.int .i64 0, .int .i64 0]), 2, 16) := by kernel_rfl

set_option maxHeartbeats 2000000 in
set_option maxRecDepth 100000 in
theorem moveSets_any (c : Cfg) (w : World) (s : St) (Q U D : Nat → Nat → Nat) (dd : Nat) (sa ta : Nat → Nat) (h : Climb c w s) (hr : Ready c s Q U D dd sa ta) (hpa : s.pa = none) (hpl : s.pl = 0) (hpc : s.pc = 0) :
    Calls Try.prog 49 #[.pointer (some ⟨c.S, 0, none⟩), .float .f64 dd] w fun e w' => ∃ (b : Bool) (s' : St) (r : Nat → Nat), e = .returned (.bool b) ∧ Climb c w' s' ∧ Done (fun k => 1 ≤ k) c s s' sa ta r b ∧ Touch (own c) w w' := by
  refine calls_of_k fun R hR => ?_
  obtain ⟨b0, hb1, hb2, hb3⟩ := mul_fac (v := vF Q c.n c.lv) (vsum_fn _ _ hr.lv)
  have m1 := fun w => run_mul w _ _ _ hb1
  have HR := hide hr
  have H0 := hide h
  have HB : Hid (BestS c Q U D id id 0 0 b0) := ⟨hb2, hb3, Nat.le_refl _, .inl rfl⟩
  have k10 := h.f10
  have hcl := fun ty => run_clear_row (w := w) ty h.U
  have HC1 := hide h.cpU
  have HT1 := hide (cpRow_touch (Touch.refl (own c) w) (own_U c) c.n (fun _ => .bool false))
  have HPA := hide hpa
  have HPL := hide hpl
  have HPC := hide hpc
  clear hb1 hb2 hb3 h hr hpa hpl hpc
  go_enter Try.func49, Try.ntmps49
  go_upto_region 2 with fail
  clear hcl k10
  generalize cpRow _ _ _ _ = w1 at HC1 HT1 ⊢
  have k11 := HC1.out.f11
  have kz := HC1.out.fz 11
  dsimp only at k11
  rw [HPA.out, HPL.out, HPC.out] at k11
  have HC2 := hide (HC1.out.setPairs none 0 0)
  have HT2 := hide (HT1.out.setCell (p := ⟨c.S, 11, none⟩) (own_S c) (.slice none 0 0))
  clear HC1 HT1
  go_upto_region 3 with fail
  clear k11 kz
  generalize World.setCell _ _ _ = w2 at HC2 HT2 ⊢
  have k12 := HC2.out.f12
  have k5 := HC2.out.f5
  have hcp := run_copy_rows (w := w2.drew) 36 3 3 Try.underlying36 Try.size3 HC2.out.drew.MZ HC2.out.drew.Z (fun i => rfl)
  rw [cpRow_drew] at hcp
  have HC3 := hide HC2.out.cpMZ.drew
  have HT3 := hide ((cpRow_touch HT2.out (own_MZ c) c.lv (fun k => .int .i64 (s.zs k))).drew)
  clear HC2 HT2
  go_region
  clear hcp k12 k5
  generalize World.drew _ = w3 at HC3 HT3 ⊢
  have k13 := HC3.out.f13
  have k6 := HC3.out.f6
  have hcp := run_copy_rows (w := w3.drew) 30 3 32 Try.underlying30 Try.size32 HC3.out.drew.MR HC3.out.drew.R (fun i => rfl)
  rw [cpRow_drew] at hcp
  have HC4 := hide HC3.out.cpMR.drew
  have HT4 := hide ((cpRow_touch HT3.out (own_MR c) c.lv (fun k => .float .f64 (s.rs k))).drew)
  clear HC3 HT3
  go_wp2
  go_region
  clear hcp k13 k6
  generalize World.drew _ = w4 at HC4 HT4 ⊢
  have k7 : w4.cell? ⟨c.S, 7, none⟩ = some (.float .f64 (vF Q c.n c.lv)) := HR.out.val ▸ HC4.out.f7
  go_wp2
  go_region
  clear m1 k7
  have HM : Hid (SetMid c w w4.drew s Q U D id id 0 none 0) :=
    ⟨H0.out, HC4.out.drew.congr (fun _ _ => rfl) (fun _ _ _ _ => rfl) rfl rfl (fun _ _ => rfl) (fun _ _ => rfl) rfl (fun _ _ => rfl) rfl rfl rfl (fun k hk => HR.out.z k hk) (fun k hk => HR.out.r k hk), ⟨fun i hi => by omega, fun i hi => by omega, fun i hi => by omega, fun i hi => by omega, fun i hi => by omega⟩, fun i hi => by omega, World.ownsRow_nil _ _ _ _, HT4.out.drew⟩
  clear HC4 HT4 HPA HPL HPC
  generalize w4.drew = w5 at HM ⊢
  clear w4 w3 w2 w1
  go_wp2
  go_loopg [5, 6, 7, 8] c.n (fun g v5 v6 v7 v8 wr => ∃ (F T : Nat → Nat) (q most b gi li : Nat) (pa : Option Addr) (pc : Nat), 2 * q + g = c.n ∧ v5 = .int .i64 most ∧ v6 = .float .f64 b ∧ v7 = .int .i64 gi ∧ v8 = .int .i64 li ∧ gi ≤ c.ng ∧ li ≤ c.nl ∧ BestS c Q U D F T q most b ∧ SetMid c w wr s Q U D F T q pa pc)
  case atStart => exact ⟨id, id, 0, 0, b0, 0, 0, none, 0, by omega, rfl, rfl, rfl, rfl, by omega, by omega, HB.out, HM.out⟩
  case round =>
    obtain ⟨F, T, q, most, b, gi, li, pa, pc, hqn, rfl, rfl, rfl, rfl, hgi, hli, hbs, hmid⟩ := hrel
    have HBS := hide hbs
    have HMI := hide hmid
    have ngb := HR.out.ng
    have nlb := HR.out.nl
    have nb := HR.out.n
    clear hbs hmid HB HM
    go_upto_block 2 with fail
    go_cut [7] from 49 to 214 (fun v7 wx => ∃ gi : Nat, v7 = .int .i64 gi ∧ FreeG c F T q gi ∧ SetMid c w wx s Q U D F T q pa pc)
    case first =>
      as_aux_lemma =>
      go_wp2_with fail
      go_loopg [7] (c.ng - gi) (fun g v7 wx => ∃ gi : Nat, gi + g = c.ng ∧ v7 = .int .i64 gi ∧ SetMid c w wx s Q U D F T q pa pc)
      case atStart => exact ⟨gi, by omega, rfl, HMI.out⟩
      case round =>
        clear HMI hgi hli hqn
        obtain ⟨gi, hg, rfl, hmid⟩ := hrel
        have k8 := hmid.climb.f8
        by_cases hlt : gi < c.ng
        · obtain ⟨tn, etn⟩ := Int.eq_ofNat_of_zero_le (HR.out.gj gi hlt).1
          have htn : tn < c.n := by have := (HR.out.gj gi hlt).2; omega
          have g1 : wr.cell? ⟨c.G, gi * 2, none⟩ = some (.int .i64 (tn : Int)) := by
            rw [hmid.climb.G.cell (by omega), ← etn]; unfold gcell; rw [if_pos (by omega), show gi * 2 / 2 = gi from by omega]
          have k10 := hmid.climb.f10
          have u1 : wr.cell? ⟨c.U, tn, none⟩ = some (.bool (seenF F T q tn)) := hmid.climb.U.cell htn
          have HMI := hide hmid
          have ET := hide etn
          clear hmid etn
          cases hse : seenF F T q tn
          · rw [hse] at u1
            have HSE := hide hse
            clear hse
            go_wp2
            go_quiet (fail)
            go_wp2
            go_meet
            exact ⟨gi, rfl, ⟨by omega, fun t' _ e => by
              have : t' = tn := by have := ET.out; omega
              rw [this]; exact HSE.out⟩, HMI.out.drewN _⟩
          · rw [hse] at u1
            clear hse
            go_wp2
            go_quiet (fail)
            go_wp2
            go_roundg (c.ng - (gi + 1))
            case measure => omega
            case rel => exact ⟨gi + 1, by omega, by go_num, HMI.out.drewN _⟩
        · have HMI := hide hmid
          clear hmid
          go_wp2
          go_quiet (fail)
          go_wp2
          go_meet
          exact ⟨gi, rfl, ⟨by omega, fun t' h _ => by omega⟩, HMI.out.drewN _⟩
    case rest =>
      clear HMI hgi
      obtain ⟨gi, rfl, hfg, hmid⟩ := hcut
      have HFG := hide hfg
      have HMI := hide hmid
      clear hfg hmid
      go_upto_block 4 with fail
      go_cut [8] from 49 to 214 (fun v8 wx => ∃ li : Nat, v8 = .int .i64 li ∧ FreeL c F T q gi li ∧ SetMid c w wx s Q U D F T q pa pc)
      case first =>
        as_aux_lemma =>
        go_wp2_with fail
        go_loopg [8] (c.nl - li) (fun g v8 wx => ∃ li : Nat, li + g = c.nl ∧ v8 = .int .i64 li ∧ SetMid c w wx s Q U D F T q pa pc)
        case atStart => exact ⟨li, by omega, rfl, HMI.out⟩
        case round =>
          clear HMI hli hqn
          obtain ⟨li, hl, rfl, hmid⟩ := hrel
          have k9 := hmid.climb.f9
          by_cases hlt : li < c.nl
          · obtain ⟨fn, efn⟩ := Int.eq_ofNat_of_zero_le (HR.out.lj li hlt).1
            have hfn : fn < c.n := by have := (HR.out.lj li hlt).2; omega
            have l1 : wr.cell? ⟨c.LO, li * 2, none⟩ = some (.int .i64 (fn : Int)) := by
              rw [hmid.climb.LO.cell (by omega), ← efn]; unfold gcell; rw [if_pos (by omega), show li * 2 / 2 = li from by omega]
            have k10 := hmid.climb.f10
            have k8 := hmid.climb.f8
            have u1 : wr.cell? ⟨c.U, fn, none⟩ = some (.bool (seenF F T q fn)) := hmid.climb.U.cell hfn
            have hgc : gi ≤ c.ng := HFG.out.1
            have EF := hide efn
            cases hse : seenF F T q fn
            · rw [hse] at u1
              have HSE := hide hse
              by_cases hgl : gi < c.ng
              · obtain ⟨tn, etn⟩ := Int.eq_ofNat_of_zero_le (HR.out.gj gi hgl).1
                have htn : tn < c.n := by have := (HR.out.gj gi hgl).2; omega
                have g1 : wr.cell? ⟨c.G, gi * 2, none⟩ = some (.int .i64 (tn : Int)) := by
                  rw [hmid.climb.G.cell (by omega), ← etn]; unfold gcell; rw [if_pos (by omega), show gi * 2 / 2 = gi from by omega]
                have HMI := hide hmid
                have ET := hide etn
                clear hmid etn efn hse
                by_cases heq : fn = tn
                · subst heq
                  go_wp2
                  go_quiet (fail)
                  go_wp2
                  go_roundg (c.nl - (li + 1))
                  case measure => omega
                  case rel => exact ⟨li + 1, by omega, by go_num, HMI.out.drewN _⟩
                · have hb : ((fn : Int) == (tn : Int)) = false := by simp; omega
                  have HNE := hide heq
                  clear heq
                  go_wp2
                  go_quiet (fail)
                  go_wp2
                  go_meet
                  exact ⟨li, rfl, ⟨by omega, fun f' _ e => by
                    have e1 : f' = fn := by have := EF.out; omega
                    subst e1
                    exact ⟨HSE.out, fun _ e2 => HNE.out (by have := ET.out; omega)⟩⟩, HMI.out.drewN _⟩
              · have HMI := hide hmid
                clear hmid efn hse
                go_wp2
                go_quiet (fail)
                go_wp2
                go_meet
                exact ⟨li, rfl, ⟨by omega, fun f' _ e => by
                  have e1 : f' = fn := by have := EF.out; omega
                  subst e1
                  exact ⟨HSE.out, fun h => absurd h hgl⟩⟩, HMI.out.drewN _⟩
            · rw [hse] at u1
              have HMI := hide hmid
              clear hmid efn hse
              go_wp2
              go_quiet (fail)
              go_wp2
              go_roundg (c.nl - (li + 1))
              case measure => omega
              case rel => exact ⟨li + 1, by omega, by go_num, HMI.out.drewN _⟩
          · have HMI := hide hmid
            clear hmid
            go_wp2
            go_quiet (fail)
            go_wp2
            go_meet
            exact ⟨li, rfl, ⟨by omega, fun f' h _ => by omega⟩, HMI.out.drewN _⟩
      case rest =>
        clear HMI hli
        obtain ⟨li, rfl, hfl, hmid⟩ := hcut
        have HFL := hide hfl
        have HMI := hide hmid
        clear hfl hmid
        go_upto_region 11 with fail
        go_cut [161] from 49 to 214 (fun v wx => ∃ bb : Bool, v = .bool bb ∧ (bb = false → gi < c.ng ∧ li < c.nl) ∧ SetMid c w wx s Q U D F T q pa pc)
        case first =>
          as_aux_lemma =>
          have k8 := HMI.out.climb.f8
          have k9 := HMI.out.climb.f9
          have hg1 := HFG.out.1
          have hl1 := HFL.out.1
          by_cases hgl : gi = c.ng
          · have hb : ((gi : Int) == (c.ng : Int)) = true := by simp [hgl]
            go_quiet (fail)
            go_wp2
            go_meet
            exact ⟨true, rfl, fun h => (by cases h), HMI.out.drewN _⟩
          · have hb : ((gi : Int) == (c.ng : Int)) = false := by simp; omega
            by_cases hll : li = c.nl
            · have hb2 : ((li : Int) == (c.nl : Int)) = true := by simp [hll]
              go_quiet (fail)
              go_wp2
              go_meet
              exact ⟨true, rfl, fun h => (by cases h), HMI.out.drewN _⟩
            · have hb2 : ((li : Int) == (c.nl : Int)) = false := by simp; omega
              have g2 : wc.cell? ⟨c.G, gi * 2 + 1, none⟩ = some (.float .f64 (c.GV gi)) := by
                rw [HMI.out.climb.G.cell (by omega)]; unfold gcell; rw [if_neg (by omega), show (gi * 2 + 1) / 2 = gi from by omega]
              have l2 : wc.cell? ⟨c.LO, li * 2 + 1, none⟩ = some (.float .f64 (c.LV li)) := by
                rw [HMI.out.climb.LO.cell (by omega)]; unfold gcell; rw [if_neg (by omega), show (li * 2 + 1) / 2 = li from by omega]
              go_quiet (fail)
              go_wp2
              go_meet
              exact ⟨_, rfl, fun _ => ⟨by omega, by omega⟩, HMI.out.drewN _⟩
        case rest =>
          clear HMI
          obtain ⟨bb, rfl, hbb, hmid⟩ := hcut
          have HMI := hide hmid
          clear hmid
          cases bb
          ·
            obtain ⟨hgl, hll⟩ := hbb rfl
            obtain ⟨tn, etn⟩ := Int.eq_ofNat_of_zero_le (HR.out.gj gi hgl).1
            have htn : tn < c.n := by have := (HR.out.gj gi hgl).2; omega
            obtain ⟨fn, efn⟩ := Int.eq_ofNat_of_zero_le (HR.out.lj li hll).1
            have hfn : fn < c.n := by have := (HR.out.lj li hll).2; omega
            have HST : Hid (seenF F T q tn = false) := HFG.out.2 tn hgl etn
            have HSF : Hid (seenF F T q fn = false) := (HFL.out.2 fn hll efn).1
            have hne : fn ≠ tn := fun e => (HFL.out.2 fn hll efn).2 hgl (by omega)
            have HNM : Hid (Named c fn tn) := ⟨hfn, htn, hne, ⟨li, hll, efn⟩, ⟨gi, hgl, etn⟩⟩
            have hn2 : 2 * (q + 1) ≤ c.n := by
              have h1 := cnt_seen (HMI.out.script.more hfn htn hne HSF.out HST.out)
              have h2 := cnt_le (seenF (upd F q fn) (upd T q tn) (q + 1)) c.n
              omega
            have g1 : wc.cell? ⟨c.G, gi * 2, none⟩ = some (.int .i64 (tn : Int)) := by
              rw [HMI.out.climb.G.cell (by omega), ← etn]; unfold gcell; rw [if_pos (by omega), show gi * 2 / 2 = gi from by omega]
            have l1 : wc.cell? ⟨c.LO, li * 2, none⟩ = some (.int .i64 (fn : Int)) := by
              rw [HMI.out.climb.LO.cell (by omega), ← efn]; unfold gcell; rw [if_pos (by omega), show li * 2 / 2 = li from by omega]
            have k8 := HMI.out.climb.f8
            have k9 := HMI.out.climb.f9
            clear hbb etn efn HFG HFL
            have hne2 : tn ≠ fn := fun e => hne e.symm
            go_wp2
            go_quiet (fail)
            clear g1 l1 k8 k9
            have HMJ := hide (HMI.out.drewN nq)
            generalize wc.drewN nq = w6 at HMJ ⊢
            clear HMI
            have k10 := HMJ.out.climb.f10
            have u1 : w6.cell? ⟨c.U, tn, none⟩ = some (.bool (seenF F T q tn)) := HMJ.out.climb.U.cell htn
            have u2 : w6.cell? ⟨c.U, fn, none⟩ = some (.bool (seenF F T q fn)) := HMJ.out.climb.U.cell hfn
            have u3 := HMJ.out.climb.U.frozen tn
            have u4 := HMJ.out.climb.U.frozen fn
            have HC7 := hide ((HMJ.out.climb.setU tn true).setU fn true).drew
            have HT7 := hide (((HMJ.out.touch.setCell (p := ⟨c.U, tn, none⟩) (own_U c) (.bool true)).setCell (p := ⟨c.U, fn, none⟩) (own_U c) (.bool true)).drew)
            have HW7 := hide (((((Touch.refl (own c) w6).setCell (p := ⟨c.U, tn, none⟩) (own_U c) (.bool true)).setCell (p := ⟨c.U, fn, none⟩) (own_U c) (.bool true)).drew))
            go_wp2
            go_region
            clear k10 u1 u2 u3 u4
            have HO7 := hide (ownsRow_touch HMJ.out.row HW7.out H0.out.own_hi)
            generalize World.drew _ = w7 at HC7 HT7 HW7 HO7 ⊢
            clear HW7
            have k11 : w7.cell? ⟨c.S, 11, none⟩ = some (.slice pa q pc) := HC7.out.f11
            obtain ⟨i0, hi, hz0, hz1, hz2⟩ := info_parts Try.info72
            have hown := HO7.out
            have hsz : w.heap.size ≤ w7.heap.size := HT7.out.size
            have hrow : ∀ k, (Value.slice pa q pc).ownBlock = some k → w.heap.size ≤ k := fun k hk => (hown.lt k hk).1
            go_wp2_with (at_builtin; refine wpList_append_own _ rfl _ _ 59 rfl w.heap.size 72 i0 (.agg #[.int .i64 0, .int .i64 0]) 2 16 Try.underlying59 hi hz0 hz1 hz2 rfl (by decide) _ _ _ rfl (hown.alloc _) ⟨w7.heap.size, 0, none⟩ 1 1 [.int .i64 (fn : Int), .int .i64 (tn : Int)] rfl rfl (cell_two_new _ _ _ _) (fun x hx => by simp at hx; rcases hx with rfl | rfl <;> rfl) (by unfold maxLen; omega) (by omega) (by simp; omega) ?_
                         intro v' w8 hown' hgrow hnil
                         obtain ⟨pa', pc', rfl⟩ := own_form hown'
                         have HT8 := hide (Touch.grownBy (HT7.out.grown ((Below.refl _ _).alloc (Nat.le_refl _) _)) hgrow hrow)
                         have HC8 := hide (Climb.of_base H0.out HC7.out (w' := w8) (fun b hb => (hgrow.block b (by simp; omega) (fun e => by have := hrow b e.symm; omega)).trans (Below.heap_alloc _ _ _ (by omega))))
                         have HO8 := hide hown'
                         have k11b := HC8.out.f11
                         have kzb := HC8.out.fz 11
                         clear hown' hgrow hnil hown k11 hrow)
            have HC9 := hide (HC8.out.setPairs pa' (q + 1) pc')
            have HT9 := hide (HT8.out.setCell (p := ⟨c.S, 11, none⟩) (own_S c) (.slice pa' (q + 1) pc'))
            have HO9 := hide (ownsRow_touch HO8.out ((Touch.refl (own c) w8).setCell (p := ⟨c.S, 11, none⟩) (own_S c) (.slice pa' (q + 1) pc')) H0.out.own_hi)
            clear k11b kzb HC8 HT8 HO8 HC7 HT7 HO7 hi hz0 hz1 hz2 hsz
            generalize World.setCell _ _ _ = w9 at HC9 HT9 HO9 ⊢
            have HV : Hid (Calls Try.prog 41 #[.pointer (some ⟨c.S, 0, none⟩), .int .i64 fn, .int .i64 tn] w9 fun e w' => e = .returned (.float .f64 (vF (swp (Sq Q U D F T q) U D fn tn) c.n c.lv)) ∧ SetMid c w w' s Q U D (upd F q fn) (upd T q tn) (q + 1) pa' pc') := by
              refine (moved_any c w9 _ Q U D fn tn (fun k => Zc (swp (Sq Q U D F T q) U D fn tn) k c.n) (fun k => Hc (swp (Sq Q U D F T q) U D fn tn) k c.n) HC9.out HR.out.q HR.out.u HR.out.d HR.out.n HR.out.lv hfn htn (room_mid hfn htn hne HR.out.n (Sq_mixed Q U D F T q) (Sq_untouched HSF.out) (Sq_untouched HST.out) HR.out.few (fun _ _ => rfl) (fun _ _ => rfl))).mono ?_
              rintro e w10 ⟨rfl, h10, t10⟩
              exact ⟨rfl, HMJ.out.next HNM.out HSF.out HST.out h10 (HT9.out.trans t10) (ownsRow_touch HO9.out t10 H0.out.own_hi)⟩
            clear HC9 HT9 HO9
            go_wp2_with fail
            refine HV.out.mono ?_
            rintro e w10 ⟨rfl, hmid⟩
            have HMK := hide hmid
            clear hmid HV HMJ
            have VN : Hid (FN (vF (swp (Sq Q U D F T q) U D fn tn) c.n c.lv)) := vsum_fn _ _ HR.out.lv
            by_cases hgt : FloatKind.f64.format.order (vF (swp (Sq Q U D F T q) U D fn tn) c.n c.lv) b = some .gt
            · have hgt' : (FloatKind.f64.format.order (vF (swp (Sq Q U D F T q) U D fn tn) c.n c.lv) b == some .gt) = true := by rw [hgt]; rfl
              have HGT : Hid (b < vF (swp (Sq Q U D F T q) U D fn tn) c.n c.lv) := order_gt_nn VN.out HBS.out.1 hgt
              clear hgt
              have k11 : w10.cell? ⟨c.S, 11, none⟩ = some (.slice pa' (q + 1) pc') := HMK.out.climb.f11
              go_wp2
              go_roundg (c.n - 2 * (q + 1))
              case measure => omega
              case rel => exact ⟨upd F q fn, upd T q tn, q + 1, q + 1, _, gi, li, pa', pc', by omega, by go_num, rfl, rfl, rfl, by omega, by omega, HBS.out.raise VN.out.nn HGT.out, HMK.out⟩
            · have hgt' : (FloatKind.f64.format.order (vF (swp (Sq Q U D F T q) U D fn tn) c.n c.lv) b == some .gt) = false := by simpa using hgt
              clear hgt
              go_wp2
              go_roundg (c.n - 2 * (q + 1))
              case measure => omega
              case rel => exact ⟨upd F q fn, upd T q tn, q + 1, most, b, gi, li, pa', pc', by omega, rfl, rfl, rfl, rfl, by omega, by omega, HBS.out.keep fn tn, HMK.out⟩
          · clear hbb HFG HFL
            have hmq : most ≤ q := HBS.out.2.2.1
            have k11 : wc.cell? ⟨c.S, 11, none⟩ = some (.slice pa q pc) := HMI.out.climb.f11
            rcases HMI.out.row.2 with ⟨hv, h0⟩ | ⟨g0, cap0, cur0, hv, _, _, hcap, _⟩
            · simp only [Value.slice.injEq] at hv
              obtain ⟨e1, _, e2⟩ := hv
              have e3 : most = 0 := by omega
              have HMI2 := hide HMI.out
              subst e1 e2 e3 h0
              go_wp2
              go_loopg [222] 0 (fun g v wr => v = .int .i64 0 ∧ wr = wc)
              case atStart => exact ⟨rfl, rfl⟩
              case round =>
                obtain ⟨rfl, rfl⟩ := hrel
                go_wp2
                exact hR.out _ _ ⟨false, _, _, rfl, HMI2.out.climb, done_none HR.out rfl rfl rfl rfl rfl, HMI2.out.touch⟩
            · simp only [Value.slice.injEq] at hv
              obtain ⟨e1, _, e2⟩ := hv
              subst e1 e2
              have hqn2 : 2 * q ≤ c.n := by omega
              go_wp2
              go_loopg [222] most (fun g v wr => ∃ i : Nat, i + g = most ∧ v = .int .i64 i ∧ Climb c wr (doneS (midS c s Q U D F T q (some ⟨g0, 0, none⟩) pc) s sa ta F T i) ∧ wr.ownsRow w.heap.size 72 2 (.slice (some ⟨g0, 0, none⟩) q pc) q (pairL F T q) ∧ Touch (own c) w wr)
              case atStart => exact ⟨0, by omega, rfl, HMI.out.climb, HMI.out.row, HMI.out.touch⟩
              case round =>
                obtain ⟨i, hi, rfl, hcl, hrow, hto⟩ := hrel
                have HSC := hide HMI.out.script
                have HNA := hide HMI.out.named
                have HCL := hide hcl
                have HRO := hide hrow
                have HTO := hide hto
                clear HMI hcl hto k11
                by_cases hlt : i < most
                · obtain ⟨g1, eg, p1, p2⟩ := own_pair hrow (show i < q by omega)
                  simp only [Option.some.injEq, Addr.mk.injEq, and_true] at eg
                  subst eg
                  clear hrow
                  have HN1 := HNA.out i (by omega)
                  have HX : Hid (Ieee.double.sub (alM s.al sa ta F T i (F i)) dd = some (sa (F i))) := by
                    show _ = _
                    rw [alM_unseen (HSC.out.sf i (by omega))]; exact HR.out.sa _ HN1.hf
                  have HY : Hid (Ieee.double.add (alM s.al sa ta F T i (T i)) dd = some (ta (T i))) := by
                    show _ = _
                    rw [alM_unseen (HSC.out.st i (by omega))]; exact HR.out.ta _ HN1.ht
                  have HV : Hid (∀ o, Calls Try.prog 53 #[.pointer (some ⟨c.S, 0, none⟩), .int .i64 (F i : Nat), .int .i64 (T i : Nat), .float .f64 dd] (wr.alloc o) fun e w' => e = .returned (.tuple #[]) ∧ Climb c w' (doneS (midS c s Q U D F T q (some ⟨g0, 0, none⟩) pc) s sa ta F T (i + 1)) ∧ w'.ownsRow w.heap.size 72 2 (.slice (some ⟨g0, 0, none⟩) q pc) q (pairL F T q) ∧ Touch (own c) w w') := by
                    intro o
                    refine (move_any c (wr.alloc o) _ (F i) (T i) dd (sa (F i)) (ta (T i)) (HCL.out.of_block (fun b hb => Below.heap_alloc _ _ _ hb)) HR.out.n HN1.hf HN1.ht HN1.ne HX.out HY.out).mono ?_
                    rintro e w' ⟨rfl, h1, h2⟩
                    exact ⟨rfl, h1, ownsRow_touch (HRO.out.alloc o) h2 H0.out.own_hi, (HTO.out.grown ((Below.refl _ _).alloc (Nat.le_refl _) o)).trans h2⟩
                  have HN2 := hide HN1
                  clear HN1
                  go_wp2_with fail
                  refine (HV.out _).mono ?_
                  rintro e w11 ⟨rfl, h1, h2, h3⟩
                  have H1 := hide h1
                  have H2 := hide h2
                  have H3 := hide h3
                  clear h1 h2 h3 HV
                  go_wp2_with fail
                  go_roundg (most - (i + 1))
                  case measure => omega
                  case rel => exact ⟨i + 1, by omega, by go_num, H1.out, H2.out, H3.out⟩
                · have e : i = most := by omega
                  subst e
                  clear hrow
                  by_cases hm0 : i = 0
                  · subst hm0
                    go_wp2_with fail
                    exact hR.out _ _ ⟨false, _, _, rfl, HCL.out, done_none HR.out rfl rfl rfl rfl rfl, HTO.out⟩
                  · have HTL : Hid (Calls Try.prog 40 #[.pointer (some ⟨c.S, 0, none⟩)] wr fun e w' => e = .returned (.tuple #[]) ∧ Climb c w' (stK (doneS (midS c s Q U D F T q (some ⟨g0, 0, none⟩) pc) s sa ta F T i) (Sq Q U D F T i) c.n c.lv) ∧ Touch (own c) wr w') :=
                      tally_any c wr _ (Sq Q U D F T i) HCL.out (chM_qb HR.out i) HR.out.n HR.out.lv (fun k hk => Sq_few HR.out F T i k hk)
                    have hpos : (0 : Int) < (i : Int) := by omega
                    go_wp2_with fail
                    refine HTL.out.mono ?_
                    rintro e w12 ⟨rfl, h1, h2⟩
                    have H1 := hide h1
                    have H2 := hide h2
                    clear h1 h2 HTL
                    go_wp2_with fail
                    refine hR.out _ _ ⟨true, _, _, rfl, H1.out, done_set HR.out (HSC.out.less (by omega)) (fun j hj => HNA.out j (by omega)) hm0 rfl rfl rfl rfl rfl ?_, HTO.out.trans H2.out⟩
                    rcases HBS.out.2.2.2 with h | ⟨h1, h2⟩
                    · exact absurd h hm0
                    · rw [← h1]; exact h2

set_option maxHeartbeats 1000000 in
theorem zzMoveSets_any : Mover 43 (fun k => 1 ≤ k) := by
  intro c w s Q U D dd sa ta h hr p1 p2 p3
  refine calls_of_k fun R hR => ?_
  have HP := hide (moveSets_any c w s Q U D dd sa ta h hr p1 p2 p3)
  clear h hr p1 p2 p3
  go_enter Try.func43, Try.ntmps43
  go_wp2_with fail
  refine HP.out.mono ?_
  rintro e w' ⟨b, s', r, rfl, h1, h2, h3⟩
  have H1 := hide h1
  have H2 := hide h2
  have H3 := hide h3
  clear h1 h2 h3 HP
  go_wp2_with fail
  exact hR.out _ _ ⟨b, s', r, rfl, H1.out, H2.out, H3.out⟩

end Go.Proofs.Qxb6000633a
